/-
  Shared contracts of seat b6602938a: where a slice of three-string structs lies in memory, and the walks of offers, ZZOffers, zzOptBytes, zzStrBytes, zzCloneOpts, zzToOptions.
-/
import Derived.Test.Qxb6602938aRows
import Derived.WalkKit
import Derived.WalkSpells
import Derived.WalkLawsBesides
import Derived.Deep.OwnRows
namespace Go.Proofs.Qxb6602938a
open Go.RowKit

/-- A slice of 'len' structs of three strings: it is empty, or its cells lie at an address of old memory: element i holds 'L i', 'V i', 'I i'. -/
def At3 (w : World) (a : Option Addr) (len : Nat) (L V I : Nat → ByteArray) : Prop :=
  len = 0 ∨ ∃ b off, a = some ⟨b, off, none⟩ ∧ b < w.heap.size ∧
    ∀ i, i < len → w.cell? ⟨b, off + i * 3, none⟩ = some (.string (L i)) ∧ w.cell? ⟨b, off + i * 3 + 1, none⟩ = some (.string (V i)) ∧ w.cell? ⟨b, off + i * 3 + 2, none⟩ = some (.string (I i))

theorem At3.below {w w' : World} {B : Nat} {a : Option Addr} {len : Nat} {L V I : Nat → ByteArray} (h : At3 w a len L V I) (hb : Below B w w') (hB : w.heap.size ≤ B) : At3 w' a len L V I := by
  rcases h with h | ⟨b, off, rfl, hlt, hc⟩
  · exact .inl h
  · refine .inr ⟨b, off, rfl, Nat.lt_of_lt_of_le hlt hb.size, fun i hi => ?_⟩
    have hbB : b < B := Nat.lt_of_lt_of_le hlt hB
    rw [hb.cell (p := ⟨b, off + i * 3, none⟩) hbB, hb.cell (p := ⟨b, off + i * 3 + 1, none⟩) hbB, hb.cell (p := ⟨b, off + i * 3 + 2, none⟩) hbB]
    exact hc i hi

/-- Whether one of the first n values is v. -/
def offB (V : Nat → ByteArray) (v : ByteArray) (n : Nat) : Bool := (List.range n).any fun i => (V i).toList == v.toList

theorem offB_zero (V : Nat → ByteArray) (v : ByteArray) : offB V v 0 = false := rfl
theorem offB_succ (V : Nat → ByteArray) (v : ByteArray) (n : Nat) : offB V v (n + 1) = (offB V v n || ((V n).toList == v.toList)) := by
  simp [offB, List.range_succ]
theorem offB_true_iff (V : Nat → ByteArray) (v : ByteArray) (n : Nat) : offB V v n = true ↔ ∃ i, i < n ∧ ((V i).toList == v.toList) = true := by
  simp [offB]
theorem offB_hit {V : Nat → ByteArray} {v : ByteArray} {k n : Nat} (hk : k < n) (h : ((V k).toList == v.toList) = true) : offB V v n = true :=
  (offB_true_iff V v n).2 ⟨k, hk, h⟩

theorem ret_bool {a b : Bool} (h : a = b) : Ending.returned (.bool a) = .returned (.bool b) := by rw [h]

set_option maxHeartbeats 400000 in
theorem offers_any (a : Option Addr) (len cap : Nat) (hlen : len ≤ maxLen) (L V I : Nat → ByteArray) (v : ByteArray) (w : World) (hat : At3 w a len L V I) :
    Calls Try.prog 29 #[.slice a len cap, .string v] w fun e w' => e = .returned (.bool (offB V v len)) ∧ Below w.heap.size w w' := by
  unfold maxLen at hlen
  rcases hat with rfl | ⟨b, off, rfl, hb, hc⟩
  · go_enter Try.func29, Try.ntmps29
    go_wp2
    refine wp_loop_rounds 1 ?_
    rw [rounds_succ]
    go_wp2
    go_ret
    exact ⟨rfl, Below.refl _ _⟩
  go_enter Try.func29, Try.ntmps29
  go_wp2
  go_loopw [9] (fun i wr => ∃ k : Nat, k ≤ len ∧ i = .int .i64 k ∧ Hid (offB V v k = false) ∧ Below w.heap.size w wr) (fun i _ => len - (intOf i).toNat)
  case atStart => exact ⟨0, Nat.zero_le _, rfl, offB_zero V v, Below.refl _ _⟩
  case round =>
    obtain ⟨k, hk, rfl, hof, hbel⟩ := hrel
    by_cases hlt : k < len
    · obtain ⟨g0, g1, g2⟩ := hc k hlt
      rw [← hbel.cell (by exact hb)] at g0 g1 g2
      clear hc
      go_wp2
      · go_ret
        have hh : ((V k).toList == v.toList) = true := by assumption
        exact ⟨ret_bool (offB_hit hlt hh).symm, hbel.alloc hbel.size _⟩
      · go_roundw
        case rel =>
          have hh : ((V k).toList == v.toList) = false := by assumption
          exact ⟨k + 1, by omega, by go_num, by show offB V v (k + 1) = false; rw [offB_succ, hof.out, hh]; rfl, hbel.alloc hbel.size _⟩
        case measure => simp [intOf]; omega
    · go_wp2
      go_ret
      obtain rfl : k = len := by omega
      exact ⟨ret_bool hof.out.symm, hbel⟩

set_option maxHeartbeats 400000 in
theorem zzoffers_any (a : Option Addr) (len cap : Nat) (hlen : len ≤ maxLen) (L V I : Nat → ByteArray) (v : ByteArray) (w : World) (hat : At3 w a len L V I) :
    Calls Try.prog 13 #[.slice a len cap, .string v] w fun e w' => e = .returned (.bool (offB V v len)) ∧ Below w.heap.size w w' := by
  go_enter Try.func13, Try.ntmps13
  go_wp2_with fail
  refine (offers_any a len cap hlen L V I v _ hat).mono ?_
  rintro e w' ⟨rfl, hbel⟩
  go_wp2
  go_ret
  exact ⟨rfl, hbel⟩

set_option maxHeartbeats 400000 in
theorem strbytes_any (s : ByteArray) (hs : s.size ≤ maxLen) (w : World) :
    Calls Try.prog 10 #[.string s] w fun e w' => ∃ n : Int, e = .returned (.int .i64 n) ∧ 0 ≤ n ∧ n ≤ 1048577 ∧ w = w' := by
  unfold maxLen at hs
  go_enter Try.func10, Try.ntmps10
  go_wp2
  · go_ret
    exact ⟨_, rfl, by omega, by omega, rfl⟩
  · go_ret
    exact ⟨_, rfl, by omega, by omega, rfl⟩

set_option maxHeartbeats 800000 in
theorem optbytes_any (a : Option Addr) (len cap : Nat) (hlen : len ≤ maxLen) (L V I : Nat → ByteArray) (w : World) (hat : At3 w a len L V I)
    (hs : ∀ i, i < len → (L i).size ≤ maxLen ∧ (V i).size ≤ maxLen ∧ (I i).size ≤ maxLen) :
    Calls Try.prog 9 #[.slice a len cap] w fun e w' => ∃ n : Int, e = .returned (.int .i64 n) ∧ 0 ≤ n ∧ n ≤ 1048577 ∧ w = w' := by
  unfold maxLen at hlen hs
  by_cases hbig : (4096 : Int) < (len : Int)
  · go_enter Try.func9, Try.ntmps9
    go_wp2
    go_ret
    exact ⟨_, rfl, by omega, by omega, rfl⟩
  rcases hat with rfl | ⟨b, off, rfl, hb, hc⟩
  · go_enter Try.func9, Try.ntmps9
    go_wp2
    refine wp_loop_rounds 1 ?_
    rw [rounds_succ]
    go_wp2
    go_ret
    exact ⟨_, rfl, by omega, by omega, rfl⟩
  go_enter Try.func9, Try.ntmps9
  go_wp2
  go_loop [3, 4] (fun t i => ∃ (k : Nat) (n : Int), k ≤ len ∧ i = .int .i64 k ∧ t = .int .i64 n ∧ 0 ≤ n ∧ n ≤ 1048576) (fun _ i => len - (intOf i).toNat)
  case atStart => exact ⟨0, _, Nat.zero_le _, rfl, rfl, by omega, by omega⟩
  case round =>
    obtain ⟨k, n, hk, rfl, rfl, hn0, hn1⟩ := hrel
    by_cases hlt : k < len
    · obtain ⟨g0, g1, g2⟩ := hc k hlt
      obtain ⟨s0, s1, s2⟩ := hs k hlt
      clear hc hs
      go_wp2
      case roundEnd =>
        go_round
        case rel => exact ⟨k + 1, _, by omega, by go_num, rfl, by omega, by omega⟩
        case measure => simp [intOf]; omega
      all_goals
        go_ret
        exact ⟨_, rfl, by omega, by omega, rfl⟩
    · go_wp2
      go_ret
      exact ⟨_, rfl, by omega, by omega, rfl⟩

theorem Try.info31 : (Try.prog.info? 31).map (fun i => (i.zero, i.size, i.bytes)) = some (some (.agg #[.string ⟨#[]⟩, .string ⟨#[]⟩, .string ⟨#[]⟩]), 3, 48) := by kernel_rfl
theorem Try.info36 : (Try.prog.info? 36).map (fun i => (i.zero, i.size, i.bytes)) = some (some (.agg #[.string ⟨#[]⟩, .string ⟨#[]⟩, .string ⟨#[]⟩]), 3, 48) := by kernel_rfl

/-- What a made slice of three-string structs holds behind k rounds: the first k structs, then whatever. -/
def Own3 (w : World) (B : Nat) (t : TypeId) (n k : Nat) (L V I : Nat → ByteArray) : Prop :=
  ∃ f : Nat → Value, w.rowIs B t (n * 3) f ∧ ∀ i, i < k → f (i * 3) = .string (L i) ∧ f (i * 3 + 1) = .string (V i) ∧ f (i * 3 + 2) = .string (I i)

theorem Own3.at3 {w : World} {B : Nat} {t : TypeId} {n : Nat} {L V I : Nat → ByteArray} (h : Own3 w B t n n L V I) : At3 w (some ⟨B, 0, none⟩) n L V I := by
  obtain ⟨f, hr, hf⟩ := h
  refine .inr ⟨B, 0, rfl, hr.lt, fun i hi => ?_⟩
  obtain ⟨e0, e1, e2⟩ := hf i hi
  refine ⟨?_, ?_, ?_⟩
  · rw [Nat.zero_add, hr.cell (by omega), e0]
  · rw [Nat.zero_add, hr.cell (by omega), e1]
  · rw [Nat.zero_add, hr.cell (by omega), e2]

theorem Own3.made {w : World} {t : TypeId} {n : Nat} {cs : Array Value} (hs : cs.size = n * 3) (L V I : Nat → ByteArray) : Own3 (w.alloc (.cells cs t)) w.heap.size t n 0 L V I := by
  refine ⟨fun i => cs.getD i (.bool false), ?_, fun i hi => absurd hi (Nat.not_lt_zero _)⟩
  have := World.rowIs_alloc w cs t (fun i => cs.getD i (.bool false)) (fun i hi => by simp [Array.getD, hi])
  rwa [hs] at this

theorem Own3.step {w : World} {B : Nat} {t : TypeId} {n k : Nat} {L V I : Nat → ByteArray} (h : Own3 w B t n k L V I) :
    Own3 (((w.setCell ⟨B, k * 3, none⟩ (.string (L k))).setCell ⟨B, k * 3 + 1, none⟩ (.string (V k))).setCell ⟨B, k * 3 + 2, none⟩ (.string (I k))) B t n (k + 1) L V I := by
  obtain ⟨f, hr, hf⟩ := h
  refine ⟨_, ((hr.set (k * 3) _).set (k * 3 + 1) _).set (k * 3 + 2) _, fun i hi => ?_⟩
  by_cases e : i = k
  · subst e
    refine ⟨?_, ?_, ?_⟩
    · simp
    · simp
    · simp
  · obtain ⟨e0, e1, e2⟩ := hf i (by omega)
    refine ⟨?_, ?_, ?_⟩
    · rw [if_neg (by omega), if_neg (by omega), if_neg (by omega), e0]
    · rw [if_neg (by omega), if_neg (by omega), if_neg (by omega), e1]
    · rw [if_neg (by omega), if_neg (by omega), if_neg (by omega), e2]

/-- 'make([]T, n)', T of three cells: some new row of n * 3 cells. -/
theorem make3 (t e : TypeId) (z : Value) (ht : Try.prog.underlying t = some (.slice e)) (hinfo : (Try.prog.info? e).map (fun i => (i.zero, i.size, i.bytes)) = some (some z, 3, 48)) (n : Nat) (hn : n ≤ 1048577) :
    ∃ cs : Array Value, Hid (cs.size = n * 3) ∧ ∀ w : World, (Instr.makeSlice t (.int .i64 (n : Int)) (.int .i64 (n : Int))).run Try.prog w = .ok (.slice (some ⟨w.heap.size, 0, none⟩) n n) (w.alloc (.cells cs e)) := by
  obtain ⟨i, hi, hz, hs, hb⟩ := info_parts hinfo
  refine ⟨madeCells z.cells (n * 3), size_madeCells _ _, fun w => ?_⟩
  have hr := run_make (P := Try.prog) w t e i z ht hi hz .i64 .i64 n n (by omega) (Int.le_refl _) (by rw [hb]; omega) (by omega)
  simp only [Int.toNat_natCast, hs] at hr
  exact hr

theorem Own3.drew {w : World} {B : Nat} {t : TypeId} {n k : Nat} {L V I : Nat → ByteArray} (h : Own3 w B t n k L V I) : Own3 w.drew B t n k L V I := h

set_option maxHeartbeats 400000 in
theorem cloneopts_nil (w : World) : Calls Try.prog 11 #[.slice none 0 0] w fun e w' => e = .returned (.slice none 0 0) ∧ w = w' := by
  have hnl := fun w => Lib.run_eql_slice_nil (P := Try.prog) w 22 31 none 0 0 0 0 Try.underlying22
  go_enter Try.func11, Try.ntmps11
  go_wp2
  go_ret
  exact ⟨rfl, rfl⟩

set_option maxHeartbeats 800000 in
theorem cloneopts_some (x : Addr) (len cap : Nat) (hlen : len ≤ 1048576) (L V I : Nat → ByteArray) (w : World) (hat : At3 w (some x) len L V I) :
    Calls Try.prog 11 #[.slice (some x) len cap] w fun e w' => e = .returned (.slice (some ⟨w.heap.size, 0, none⟩) len len) ∧ Own3 w' w.heap.size 31 len len L V I ∧ Below w.heap.size w w' := by
  obtain ⟨cs, hcs, hmk⟩ := make3 22 31 _ Try.underlying22 Try.info31 len (by omega)
  have hnl := fun w => Lib.run_eql_slice_nil (P := Try.prog) w 22 31 (some x) len cap 0 0 Try.underlying22
  go_enter Try.func11, Try.ntmps11
  go_wp2
  go_loopw [4] (fun i wr => ∃ k : Nat, k ≤ len ∧ i = .int .i64 k ∧ Own3 wr w.heap.size 31 len k L V I ∧ Below w.heap.size w wr) (fun i _ => len - (intOf i).toNat)
  case atStart => exact ⟨0, Nat.zero_le _, rfl, Own3.made hcs.out L V I, (Below.refl _ _).alloc (Nat.le_refl _) _⟩
  case round =>
    obtain ⟨k, hk, rfl, hown, hbel⟩ := hrel
    by_cases hlt : k < len
    · rcases hat with rfl | ⟨b, off, hx, hb, hc⟩
      · omega
      obtain rfl : x = ⟨b, off, none⟩ := by simpa using hx
      obtain ⟨g0, g1, g2⟩ := hc k hlt
      rw [← hbel.cell (by exact hb)] at g0 g1 g2
      have hst := hown.step
      obtain ⟨f, hr, _⟩ := hown
      have c0 := hr.cell (i := k * 3) (by omega)
      have c1 := hr.cell (i := k * 3 + 1) (by omega)
      have c2 := hr.cell (i := k * 3 + 2) (by omega)
      have f0 := hr.frozen (k * 3)
      have f1 := hr.frozen (k * 3 + 1)
      have f2 := hr.frozen (k * 3 + 2)
      have hki : (k : Int) < (len : Int) := by omega
      clear hc hx hmk hnl
      go_wp2
      all_goals
        go_roundw
        case rel => exact ⟨k + 1, by omega, by go_num, hst, (((hbel.setCell (Nat.le_refl _) _).setCell (Nat.le_refl _) _).setCell (Nat.le_refl _) _)⟩
        case measure => simp [intOf]; omega
    · go_wp2
      go_ret
      obtain rfl : k = len := by omega
      exact ⟨rfl, hown, hbel⟩

end Go.Proofs.Qxb6602938a
