/-
  Shared contracts of seat b6603478a: where a slice of bytes lies in memory; the walks of skipSpace, ZZskipSpace, zzIsJSONSpace, zzCopyBytes.
-/
import Derived.Test.Qxb6603478aRows
import Derived.WalkKit
import Derived.WalkSpells
import Derived.WalkLawsBesides
import Derived.Laws.CopyOwn
namespace Go.Proofs.Qxb6603478a
open Go.RowKit

/-- A slice of the bytes zs: it is empty, or its cells lie at an address of old memory. -/
def AtB (w : World) (a : Option Addr) (zs : List Int) : Prop :=
  zs.length = 0 ∨ ∃ b off, a = some ⟨b, off, none⟩ ∧ b < w.heap.size ∧ ∀ i, i < zs.length → w.cell? ⟨b, off + i, none⟩ = some (.int .u8 (zs.getD i 0))

theorem AtB.below {w w' : World} {B : Nat} {a : Option Addr} {zs : List Int} (h : AtB w a zs) (hb : Below B w w') (hB : w.heap.size ≤ B) : AtB w' a zs := by
  rcases h with h | ⟨b, off, rfl, hlt, hc⟩
  · exact .inl h
  · refine .inr ⟨b, off, rfl, Nat.lt_of_lt_of_le hlt hb.size, fun i hi => ?_⟩
    rw [hb.cell (p := ⟨b, off + i, none⟩) (Nat.lt_of_lt_of_le hlt hB)]
    exact hc i hi

theorem AtB.elem {w : World} {a : Option Addr} {zs : List Int} (h : AtB w a zs) {k : Nat} (hk : k < zs.length) :
    ∃ b off, a = some ⟨b, off, none⟩ ∧ b < w.heap.size ∧ w.cell? ⟨b, off + k, none⟩ = some (.int .u8 (zs.getD k 0)) := by
  rcases h with h | ⟨b, off, rfl, hb, hc⟩
  · omega
  · exact ⟨b, off, rfl, hb, hc k hk⟩

/-- The four white-space bytes. -/
def sp (z : Int) : Bool := z == 32 || z == 9 || z == 10 || z == 13

theorem sp_true {z : Int} (h : sp z = true) : z = 32 ∨ z = 9 ∨ z = 10 ∨ z = 13 := by
  simp [sp] at h
  omega
theorem sp_false {z : Int} (h : sp z = false) : (z == 32) = false ∧ (z == 9) = false ∧ (z == 10) = false ∧ (z == 13) = false := by
  simp [sp] at h
  refine ⟨?_, ?_, ?_, ?_⟩ <;> simp <;> omega

/-- From index i on white space is skipped as far as r. -/
def Skips (zs : List Int) (i r : Nat) : Prop := i ≤ r ∧ (r = i ∨ r ≤ zs.length) ∧ (∀ k, i ≤ k → k < r → sp (zs.getD k 0) = true) ∧ (r < zs.length → sp (zs.getD r 0) = false)

theorem Skips.unique {zs : List Int} {i r s : Nat} (h : Skips zs i r) (k : Skips zs i s) : r = s := by
  obtain ⟨h1, h2, h3, h4⟩ := h
  obtain ⟨k1, k2, k3, k4⟩ := k
  rcases Nat.lt_trichotomy r s with hlt | he | hlt
  · have a := h4 (by omega)
    rw [k3 r h1 hlt] at a
    cases a
  · exact he
  · have a := k4 (by omega)
    rw [h3 s k1 hlt] at a
    cases a

set_option maxHeartbeats 400000 in
theorem isspace_any (z : Int) (w : World) : Calls Try.prog 9 #[.int .u8 z] w fun e w' => e = .returned (.bool (sp z)) ∧ w = w' := by
  cases h : sp z with
  | true =>
    rcases sp_true h with rfl | rfl | rfl | rfl
    all_goals
      go_enter Try.func9, Try.ntmps9
      go_wp2
      go_ret
      exact ⟨rfl, rfl⟩
  | false =>
    obtain ⟨h1, h2, h3, h4⟩ := sp_false h
    clear h
    go_enter Try.func9, Try.ntmps9
    go_wp2
    go_ret
    exact ⟨rfl, rfl⟩

theorem ret_int {k : IntKind} {a b : Int} (h : a = b) : Ending.returned (.int k a) = .returned (.int k b) := by rw [h]

set_option maxHeartbeats 1600000 in
theorem skip_any (a : Option Addr) (zs : List Int) (cap : Nat) (hlen : zs.length ≤ maxLen) (i : Nat) (w : World) (hat : AtB w a zs) :
    Calls Try.prog 15 #[.slice a zs.length cap, .int .i64 i] w fun e w' => ∃ r : Nat, e = .returned (.int .i64 r) ∧ Skips zs i r ∧ w = w' := by
  unfold maxLen at hlen
  go_enter Try.func15, Try.ntmps15
  go_wp2
  go_loop [1] (fun t => ∃ k : Nat, i ≤ k ∧ (k = i ∨ k ≤ zs.length) ∧ t = .int .i64 k ∧ Hid (∀ j, i ≤ j → j < k → sp (zs.getD j 0) = true)) (fun t => zs.length - (intOf t).toNat)
  case atStart => exact ⟨i, Nat.le_refl _, .inl rfl, rfl, fun j h1 h2 => by omega⟩
  case round =>
    obtain ⟨k, hk1, hk2, rfl, hsp⟩ := hrel
    by_cases hlt : k < zs.length
    · obtain ⟨b, off, rfl, _, g⟩ := hat.elem hlt
      obtain ⟨z, hz⟩ : ∃ z, z = zs.getD k 0 := ⟨_, rfl⟩
      rw [← hz] at g
      have HZ : Hid (z = zs.getD k 0) := hz
      clear hz
      have hki : (k : Int) < (zs.length : Int) := by omega
      cases hs : sp z with
      | true =>
        have HN : Hid (∀ j, i ≤ j → j < k + 1 → sp (zs.getD j 0) = true) := by
          intro j h1 h2
          by_cases e : j = k
          · subst e; rw [← HZ.out]; exact hs
          · exact hsp.out j h1 (by omega)
        rcases sp_true hs with rfl | rfl | rfl | rfl
        all_goals
          clear hs HZ
          go_wp2
          go_round
          case rel => exact ⟨k + 1, by omega, .inr (by omega), by go_num, HN⟩
          case measure => simp [intOf]; omega
      | false =>
        have HF : Hid (Skips zs i k) := ⟨hk1, hk2, hsp.out, fun _ => by rw [← HZ.out]; exact hs⟩
        obtain ⟨h1, h2, h3, h4⟩ := sp_false hs
        clear hs HZ hsp
        by_cases hle : z ≤ 32
        all_goals
          go_wp2
          go_ret
          exact ⟨k, rfl, HF.out, rfl⟩
    · have HF : Hid (Skips zs i k) := ⟨hk1, hk2, hsp.out, fun h => absurd h hlt⟩
      go_wp2
      go_ret
      exact ⟨k, rfl, HF.out, rfl⟩

set_option maxHeartbeats 400000 in
theorem zzskip_any (a : Option Addr) (zs : List Int) (cap : Nat) (hlen : zs.length ≤ maxLen) (i : Nat) (w : World) (hat : AtB w a zs) :
    Calls Try.prog 8 #[.slice a zs.length cap, .int .i64 i] w fun e w' => ∃ r : Nat, e = .returned (.int .i64 r) ∧ Skips zs i r ∧ w = w' := by
  go_enter Try.func8, Try.ntmps8
  go_wp2_with fail
  refine (skip_any a zs cap hlen i _ hat).mono ?_
  rintro e w' ⟨r, rfl, hr, rfl⟩
  go_wp2
  go_ret
  exact ⟨r, rfl, hr, rfl⟩

theorem Try.info5 : (Try.prog.info? 5).map (fun i => (i.zero, i.size, i.bytes)) = some (some (.int .u8 0), 1, 1) := by kernel_rfl
theorem Try.size5 : (Try.prog.info? 5).map (·.size) = some 1 := by kernel_rfl

theorem make1 (n : Nat) (hn : n ≤ 2097152) :
    ∃ cs : Array Value, Hid (cs.size = n) ∧ ∀ w : World, (Instr.makeSlice 22 (.int .i64 (n : Int)) (.int .i64 (n : Int))).run Try.prog w = .ok (.slice (some ⟨w.heap.size, 0, none⟩) n n) (w.alloc (.cells cs 5)) := by
  obtain ⟨i, hi, hz, hs, hb⟩ := info_parts Try.info5
  refine ⟨madeCells (Value.cells (.int .u8 0)) (n * 1), by show _ = _; rw [size_madeCells, Nat.mul_one], fun w => ?_⟩
  have hr := run_make (P := Try.prog) w 22 5 i _ Try.underlying22 hi hz .i64 .i64 n n (by omega) (Int.le_refl _) (by rw [hb]; omega) (by omega)
  simp only [Int.toNat_natCast, hs] at hr
  exact hr

/-- 'copy(c, b)', c just made, as long as b. -/
theorem copy_made (x : Addr) (zs : List Int) (cap : Nat) (w : World) (hat : AtB w (some x) zs) (cs : Array Value) (hcs : cs.size = zs.length) :
    ∃ w2, (∀ ty, (Builtin.copy_ #[22, 22] ty #[.slice (some ⟨w.heap.size, 0, none⟩) zs.length zs.length, .slice (some x) zs.length cap]).run Try.prog (w.alloc (.cells cs 5)) = .ok (.int .i64 (zs.length : Int)) w2) ∧
      AtB w2 (some ⟨w.heap.size, 0, none⟩) zs ∧ Below w.heap.size w w2 := by
  have hb : Below w.heap.size w (w.alloc (.cells cs 5)) := (Below.refl _ _).alloc (Nat.le_refl _) _
  by_cases h0 : zs.length = 0
  · refine ⟨_, fun ty => ?_, .inl h0, hb⟩
    rw [h0]
    exact run_copy_none (P := Try.prog) _ 22 22 ty 5 _ _ 0 0 0 cap Try.underlying22 Try.size5 rfl
  · rcases hat with h | ⟨b, off, hx, hlt, hc⟩
    · exact absurd h h0
    obtain rfl : x = ⟨b, off, none⟩ := by simpa using hx
    have hg : (w.alloc (.cells cs 5)).heap[w.heap.size]? = some (.cells cs 5 (0, 0)) := heap_alloc_new w _
    have hr := fun ty => run_copy_row (P := Try.prog) (w.alloc (.cells cs 5)) 22 22 ty 5 w.heap.size 0 zs.length zs.length ⟨b, off, none⟩ zs.length cap cs 5 (zs.map (Value.int .u8)) Try.underlying22 Try.size5 hg (by simp)
      (fun j v hj => by
        have hjl : j < zs.length := by
          have := (List.getElem?_eq_some_iff.1 hj).1
          simpa using this
        rw [Addr.add_lit, hb.cell (p := ⟨b, off + j, none⟩) hlt, hc j hjl]
        simp [List.getElem?_eq_getElem hjl] at hj
        subst hj
        simp [List.getD, List.getElem?_eq_getElem hjl])
      (by simp [hcs]) (ints_oneCell .u8 zs)
    have e : (cs.toList.take 0 ++ zs.map (Value.int .u8) ++ cs.toList.drop (0 + (zs.map (Value.int .u8)).length)).toArray = (zs.map (Value.int .u8)).toArray := by
      rw [List.drop_of_length_le (by simp [hcs])]
      simp
    rw [e] at hr
    refine ⟨(w.alloc (.cells cs 5)).setRow w.heap.size (zs.map (Value.int .u8)).toArray, fun ty => (hr ty).trans (by simp [goInt]), .inr ⟨w.heap.size, 0, rfl, ?_, fun i hi => ?_⟩, below_setRow hb (Nat.le_refl _) _⟩
    · have := (below_setRow hb (Nat.le_refl _) (zs.map (Value.int .u8)).toArray).size
      have hs : ((w.alloc (.cells cs 5)).setRow w.heap.size (zs.map (Value.int .u8)).toArray).heap.size = w.heap.size + 1 := by simp [World.setRow]
      omega
    · rw [Nat.zero_add, cell_of_row _ w.heap.size i _ 5 (0, 0) (setRow_heap _ _ _ _ _ _ hg)]
      simp [List.getElem?_eq_getElem hi, List.getD]

/-- What zzCopyBytes and zzPadFront hand back: a slice of zs, nil or at the head of a row, as long as its capacity. -/
def FreshB (w w' : World) (zs : List Int) (e : Ending) : Prop :=
  ∃ a', e = .returned (.slice a' zs.length zs.length) ∧ (a' = none → zs.length = 0) ∧ (∀ x, a' = some x → ∃ B, x = ⟨B, 0, none⟩) ∧ AtB w' a' zs ∧ Below w.heap.size w w'

set_option maxHeartbeats 800000 in
theorem copybytes_all (a : Option Addr) (zs : List Int) (cap : Nat) (hlen : zs.length ≤ 1048576) (hnil : a = none → zs.length = 0 ∧ cap = 0) (w : World) (hat : AtB w a zs) :
    Calls Try.prog 7 #[.slice a zs.length cap] w fun e w' => FreshB w w' zs e := by
  cases a with
  | none =>
    obtain ⟨h0, rfl⟩ := hnil rfl
    rw [h0]
    have hnl := fun w => Lib.run_eql_slice_nil (P := Try.prog) w 22 5 none 0 0 0 0 Try.underlying22
    go_enter Try.func7, Try.ntmps7
    go_wp2
    go_ret
    exact ⟨none, by rw [h0]; rfl, fun _ => h0, fun x h => (by cases h), .inl h0, Below.refl _ _⟩
  | some x =>
    obtain ⟨cs, hcs, hmk⟩ := make1 zs.length (by omega)
    have hnl := fun w => Lib.run_eql_slice_nil (P := Try.prog) w 22 5 (some x) zs.length cap 0 0 Try.underlying22
    obtain ⟨w2, hcp, A2, B2⟩ := copy_made x zs cap w hat cs hcs.out
    go_enter Try.func7, Try.ntmps7
    go_wp2
    go_ret
    exact ⟨_, rfl, fun h => (by cases h), fun x h => ⟨_, (Option.some.inj h).symm⟩, A2, B2⟩

end Go.Proofs.Qxb6603478a
