/-
  Seat b6602938a: slices of pairs (four cells each: a string, an int, a string, an int): where they lie; the walks of zzPairBytes, zzClonePairs, zzToPair, zzToPairs, zzConcatPairs, zzHasKey.
-/
import Derived.Test.Qxb6602938aCore
namespace Go.Proofs.Qxb6602938a
open Go.RowKit

/-- Pairs by their index: key, its line, value, its line. -/
structure Prs where
  k : Nat → ByteArray
  a : Nat → Int
  v : Nat → ByteArray
  c : Nat → Int

/-- A slice of 'len' pairs: it is empty, or its cells lie at an address of old memory. -/
def At4 (w : World) (a : Option Addr) (len : Nat) (P : Prs) : Prop :=
  len = 0 ∨ ∃ b off, a = some ⟨b, off, none⟩ ∧ b < w.heap.size ∧
    ∀ i, i < len → w.cell? ⟨b, off + i * 4, none⟩ = some (.string (P.k i)) ∧ w.cell? ⟨b, off + i * 4 + 1, none⟩ = some (.int .i64 (P.a i)) ∧ w.cell? ⟨b, off + i * 4 + 2, none⟩ = some (.string (P.v i)) ∧ w.cell? ⟨b, off + i * 4 + 3, none⟩ = some (.int .i64 (P.c i))

theorem At4.below {w w' : World} {B : Nat} {a : Option Addr} {len : Nat} {P : Prs} (h : At4 w a len P) (hb : Below B w w') (hB : w.heap.size ≤ B) : At4 w' a len P := by
  rcases h with h | ⟨b, off, rfl, hlt, hc⟩
  · exact .inl h
  · refine .inr ⟨b, off, rfl, Nat.lt_of_lt_of_le hlt hb.size, fun i hi => ?_⟩
    have hbB : b < B := Nat.lt_of_lt_of_le hlt hB
    rw [hb.cell (p := ⟨b, off + i * 4, none⟩) hbB, hb.cell (p := ⟨b, off + i * 4 + 1, none⟩) hbB, hb.cell (p := ⟨b, off + i * 4 + 2, none⟩) hbB, hb.cell (p := ⟨b, off + i * 4 + 3, none⟩) hbB]
    exact hc i hi

theorem At4.elem {w : World} {a : Option Addr} {len : Nat} {P : Prs} (h : At4 w a len P) {k : Nat} (hk : k < len) :
    ∃ b off, a = some ⟨b, off, none⟩ ∧ b < w.heap.size ∧ w.cell? ⟨b, off + k * 4, none⟩ = some (.string (P.k k)) ∧ w.cell? ⟨b, off + k * 4 + 1, none⟩ = some (.int .i64 (P.a k)) ∧ w.cell? ⟨b, off + k * 4 + 2, none⟩ = some (.string (P.v k)) ∧ w.cell? ⟨b, off + k * 4 + 3, none⟩ = some (.int .i64 (P.c k)) := by
  rcases h with rfl | ⟨b, off, rfl, hb, hc⟩
  · omega
  · exact ⟨b, off, rfl, hb, hc k hk⟩

theorem Try.info60 : (Try.prog.info? 60).map (fun i => (i.zero, i.size, i.bytes)) = some (some (.agg #[.string ⟨#[]⟩, .int .i64 0, .string ⟨#[]⟩, .int .i64 0]), 4, 48) := by kernel_rfl
theorem Try.info67 : (Try.prog.info? 67).map (fun i => (i.zero, i.size, i.bytes)) = some (some (.agg #[.string ⟨#[]⟩, .int .i64 0, .string ⟨#[]⟩, .int .i64 0]), 4, 48) := by kernel_rfl

/-- What a made slice of pairs holds behind k rounds. -/
def Own4 (w : World) (B : Nat) (t : TypeId) (n k : Nat) (P : Prs) : Prop :=
  ∃ f : Nat → Value, w.rowIs B t (n * 4) f ∧ ∀ i, i < k → f (i * 4) = .string (P.k i) ∧ f (i * 4 + 1) = .int .i64 (P.a i) ∧ f (i * 4 + 2) = .string (P.v i) ∧ f (i * 4 + 3) = .int .i64 (P.c i)

theorem Own4.at4 {w : World} {B : Nat} {t : TypeId} {n : Nat} {P : Prs} (h : Own4 w B t n n P) : At4 w (some ⟨B, 0, none⟩) n P := by
  obtain ⟨f, hr, hf⟩ := h
  refine .inr ⟨B, 0, rfl, hr.lt, fun i hi => ?_⟩
  obtain ⟨e0, e1, e2, e3⟩ := hf i hi
  refine ⟨?_, ?_, ?_, ?_⟩
  · rw [Nat.zero_add, hr.cell (by omega), e0]
  · rw [Nat.zero_add, hr.cell (by omega), e1]
  · rw [Nat.zero_add, hr.cell (by omega), e2]
  · rw [Nat.zero_add, hr.cell (by omega), e3]

theorem Own4.below {w w' : World} {B B' : Nat} {t : TypeId} {n k : Nat} {P : Prs} (h : Own4 w B t n k P) (hb : Below B' w w') (hB : w.heap.size ≤ B') : Own4 w' B t n k P := by
  obtain ⟨f, hr, hf⟩ := h
  exact ⟨f, hr.of_block (hb.block B (Nat.lt_of_lt_of_le hr.lt hB)), hf⟩

theorem Own4.made {w : World} {t : TypeId} {n : Nat} {cs : Array Value} (hs : cs.size = n * 4) (P : Prs) : Own4 (w.alloc (.cells cs t)) w.heap.size t n 0 P := by
  refine ⟨fun i => cs.getD i (.bool false), ?_, fun i hi => absurd hi (Nat.not_lt_zero _)⟩
  have := World.rowIs_alloc w cs t (fun i => cs.getD i (.bool false)) (fun i hi => by simp [Array.getD, hi])
  rwa [hs] at this

theorem Own4.step {w : World} {B : Nat} {t : TypeId} {n k : Nat} {P : Prs} (h : Own4 w B t n k P) :
    Own4 ((((w.setCell ⟨B, k * 4, none⟩ (.string (P.k k))).setCell ⟨B, k * 4 + 1, none⟩ (.int .i64 (P.a k))).setCell ⟨B, k * 4 + 2, none⟩ (.string (P.v k))).setCell ⟨B, k * 4 + 3, none⟩ (.int .i64 (P.c k))) B t n (k + 1) P := by
  obtain ⟨f, hr, hf⟩ := h
  refine ⟨_, (((hr.set (k * 4) _).set (k * 4 + 1) _).set (k * 4 + 2) _).set (k * 4 + 3) _, fun i hi => ?_⟩
  by_cases e : i = k
  · subst e
    refine ⟨?_, ?_, ?_, ?_⟩ <;> simp
  · obtain ⟨e0, e1, e2, e3⟩ := hf i (by omega)
    refine ⟨?_, ?_, ?_, ?_⟩
    · rw [if_neg (by omega), if_neg (by omega), if_neg (by omega), if_neg (by omega), e0]
    · rw [if_neg (by omega), if_neg (by omega), if_neg (by omega), if_neg (by omega), e1]
    · rw [if_neg (by omega), if_neg (by omega), if_neg (by omega), if_neg (by omega), e2]
    · rw [if_neg (by omega), if_neg (by omega), if_neg (by omega), if_neg (by omega), e3]

/-- The cells that the next step writes: they are there, and not frozen. -/
theorem Own4.room {w : World} {B : Nat} {t : TypeId} {n k : Nat} {P : Prs} (h : Own4 w B t n k P) (hk : k < n) :
    ∃ f : Nat → Value, (w.cell? ⟨B, k * 4, none⟩ = some (f 0) ∧ w.cell? ⟨B, k * 4 + 1, none⟩ = some (f 1) ∧ w.cell? ⟨B, k * 4 + 2, none⟩ = some (f 2) ∧ w.cell? ⟨B, k * 4 + 3, none⟩ = some (f 3)) ∧
      (w.frozen? ⟨B, k * 4, none⟩ = false ∧ w.frozen? ⟨B, k * 4 + 1, none⟩ = false ∧ w.frozen? ⟨B, k * 4 + 2, none⟩ = false ∧ w.frozen? ⟨B, k * 4 + 3, none⟩ = false) := by
  obtain ⟨f, hr, _⟩ := h
  exact ⟨fun j => f (k * 4 + j), ⟨hr.cell (by omega), hr.cell (by omega), hr.cell (by omega), hr.cell (by omega)⟩, hr.frozen _, hr.frozen _, hr.frozen _, hr.frozen _⟩

theorem make4 (t e : TypeId) (z : Value) (ht : Try.prog.underlying t = some (.slice e)) (hinfo : (Try.prog.info? e).map (fun i => (i.zero, i.size, i.bytes)) = some (some z, 4, 48)) (n : Nat) (hn : n ≤ 2097152) :
    ∃ cs : Array Value, Hid (cs.size = n * 4) ∧ ∀ w : World, (Instr.makeSlice t (.int .i64 (n : Int)) (.int .i64 (n : Int))).run Try.prog w = .ok (.slice (some ⟨w.heap.size, 0, none⟩) n n) (w.alloc (.cells cs e)) := by
  obtain ⟨i, hi, hz, hs, hb⟩ := info_parts hinfo
  refine ⟨madeCells z.cells (n * 4), size_madeCells _ _, fun w => ?_⟩
  have hr := run_make (P := Try.prog) w t e i z ht hi hz .i64 .i64 n n (by omega) (Int.le_refl _) (by rw [hb]; omega) (by omega)
  simp only [Int.toNat_natCast, hs] at hr
  exact hr

set_option maxHeartbeats 800000 in
theorem pairbytes_any (a : Option Addr) (len cap : Nat) (hlen : len ≤ maxLen) (P : Prs) (w : World) (hat : At4 w a len P) (hs : ∀ i, i < len → (P.k i).size ≤ maxLen ∧ (P.v i).size ≤ maxLen) :
    Calls Try.prog 22 #[.slice a len cap] w fun e w' => ∃ n : Int, e = .returned (.int .i64 n) ∧ 0 ≤ n ∧ n ≤ 1048577 ∧ w = w' := by
  unfold maxLen at hlen hs
  by_cases hbig : (4096 : Int) < (len : Int)
  · go_enter Try.func22, Try.ntmps22
    go_wp2
    go_ret
    exact ⟨_, rfl, by omega, by omega, rfl⟩
  go_enter Try.func22, Try.ntmps22
  go_wp2
  go_loop [3, 4] (fun t i => ∃ (k : Nat) (n : Int), k ≤ len ∧ i = .int .i64 k ∧ t = .int .i64 n ∧ 0 ≤ n ∧ n ≤ 1048576) (fun _ i => len - (intOf i).toNat)
  case atStart => exact ⟨0, _, Nat.zero_le _, rfl, rfl, by omega, by omega⟩
  case round =>
    obtain ⟨k, n, hk, rfl, rfl, hn0, hn1⟩ := hrel
    by_cases hlt : k < len
    · obtain ⟨b, off, rfl, _, g0, g1, g2, g3⟩ := hat.elem hlt
      obtain ⟨s0, s1⟩ := hs k hlt
      clear hs
      go_wp2
      case roundEnd =>
        go_round
        case rel => exact ⟨k + 1, _, by omega, by go_num, rfl, by omega, by omega⟩
        case measure => simp [intOf]; omega
      all_goals
        go_ret
        exact ⟨_, rfl, by omega, by omega, rfl⟩
    · go_wp2
      go_ret
      exact ⟨_, rfl, by omega, by omega, rfl⟩

set_option maxHeartbeats 800000 in
theorem clonepairs_all (a : Option Addr) (len cap : Nat) (hlen : len ≤ 1048576) (hnil : a = none → len = 0 ∧ cap = 0) (P : Prs) (w : World) (hat : At4 w a len P) :
    Calls Try.prog 23 #[.slice a len cap] w fun e w' => ∃ a', e = .returned (.slice a' len len) ∧ (a' = none → len = 0) ∧ At4 w' a' len P ∧ Below w.heap.size w w' := by
  cases a with
  | none =>
    obtain ⟨rfl, rfl⟩ := hnil rfl
    have hnl := fun w => Lib.run_eql_slice_nil (P := Try.prog) w 40 60 none 0 0 0 0 Try.underlying40
    go_enter Try.func23, Try.ntmps23
    go_wp2
    go_ret
    exact ⟨none, rfl, .inl rfl, Below.refl _ _⟩
  | some x =>
    obtain ⟨cs, hcs, hmk⟩ := make4 40 60 _ Try.underlying40 Try.info60 len (by omega)
    have hnl := fun w => Lib.run_eql_slice_nil (P := Try.prog) w 40 60 (some x) len cap 0 0 Try.underlying40
    go_enter Try.func23, Try.ntmps23
    go_wp2
    go_loopw [4] (fun i wr => ∃ k : Nat, k ≤ len ∧ i = .int .i64 k ∧ Own4 wr w.heap.size 60 len k P ∧ Below w.heap.size w wr) (fun i _ => len - (intOf i).toNat)
    case atStart => exact ⟨0, Nat.zero_le _, rfl, Own4.made hcs.out P, (Below.refl _ _).alloc (Nat.le_refl _) _⟩
    case round =>
      clear hmk hnl
      obtain ⟨k, hk, rfl, hown, hbel⟩ := hrel
      by_cases hlt : k < len
      · obtain ⟨b, off, hx, _, g0, g1, g2, g3⟩ := (hat.below hbel (Nat.le_refl _)).elem hlt
        obtain rfl : x = ⟨b, off, none⟩ := by simpa using hx
        have hst := hown.step
        obtain ⟨f, ⟨c0, c1, c2, c3⟩, f0, f1, f2, f3⟩ := hown.room hlt
        have hki : (k : Int) < (len : Int) := by omega
        clear hx
        go_wp2
        go_roundw
        case rel => exact ⟨k + 1, by omega, by go_num, hst, (((hbel.setCell (Nat.le_refl _) _).setCell (Nat.le_refl _) _).setCell (Nat.le_refl _) _).setCell (Nat.le_refl _) _⟩
        case measure => simp [intOf]; omega
      · obtain rfl : len = k := by omega
        go_wp2
        go_ret
        exact ⟨_, rfl, fun h => (by cases h), hown.at4, hbel⟩

set_option maxHeartbeats 800000 in
theorem topair_any (s0 : ByteArray) (x : Int) (s1 : ByteArray) (y : Int) (w : World) :
    Calls Try.prog 32 #[.agg #[.string s0, .int .i64 x, .string s1, .int .i64 y]] w fun e w' => e = .returned (.agg #[.string s0, .int .i64 x, .string s1, .int .i64 y]) ∧ Below w.heap.size w w' := by
  go_enter Try.func32, Try.ntmps32
  go_wp2
  exact bodyPost_ret (v := .agg #[.string s0, .int .i64 x, .string s1, .int .i64 y]) (by simp [results, Try.results32, go_sem]) rfl ⟨rfl, ((Below.refl _ _).alloc (Nat.le_refl _) _).alloc (by simp) _⟩

set_option maxHeartbeats 800000 in
theorem haskey_any (a : Option Addr) (len cap : Nat) (hlen : len ≤ maxLen) (P : Prs) (v : ByteArray) (w : World) (hat : At4 w a len P) :
    Calls Try.prog 28 #[.slice a len cap, .string v] w fun e w' => e = .returned (.bool (offB P.k v len)) ∧ w = w' := by
  unfold maxLen at hlen
  go_enter Try.func28, Try.ntmps28
  go_wp2
  go_loop [5, 6] (fun f i => ∃ k : Nat, k ≤ len ∧ i = .int .i64 k ∧ f = .bool (offB P.k v k)) (fun _ i => len - (intOf i).toNat)
  case atStart => exact ⟨0, Nat.zero_le _, rfl, rfl⟩
  case round =>
    obtain ⟨k, hk, rfl, rfl⟩ := hrel
    by_cases hlt : k < len
    · obtain ⟨b1, o1, rfl, _, g0, g1, g2, g3⟩ := hat.elem hlt
      have HS : Hid (offB P.k v (k + 1) = (offB P.k v k || ((P.k k).toList == v.toList))) := offB_succ P.k v k
      cases hh : ((P.k k).toList == v.toList) with
      | true =>
        go_wp2
        go_round
        case rel => exact ⟨k + 1, by omega, by go_num, by rw [HS.out, hh]; simp⟩
        case measure => simp [intOf]; omega
      | false =>
        go_wp2
        go_round
        case rel => exact ⟨k + 1, by omega, by go_num, by rw [HS.out, hh]; simp⟩
        case measure => simp [intOf]; omega
    · obtain rfl : len = k := by omega
      go_wp2
      go_ret
      exact ⟨rfl, rfl⟩

end Go.Proofs.Qxb6602938a
