/-
  Seat b6602938a: the callees of FnOffersEachIsDistinctAndOffered that the other laws do not call: its size guard, zzStrsBytes, zzCloneStrings, zzHasValue.
-/
import Derived.Test.Qxb6602938aGuards
import Derived.Test.Qxb6602938aEach
namespace Go.Proofs.Qxb6602938a
open Go.RowKit

theorem At1.cellAt {w : World} {b off n : Nat} {S : Nat → ByteArray} (h : At1 w (some ⟨b, off, none⟩) n S) {k : Nat} (hk : k < n) : w.cell? ⟨b, off + k, none⟩ = some (.string (S k)) := by
  obtain ⟨b', off', e, _, hc⟩ := h.cells hk
  simp only [Option.some.injEq, Addr.mk.injEq, and_true] at e
  obtain ⟨rfl, rfl⟩ := e
  exact hc

/-- The size guard answers some bool; where it answers true both slices are short. -/
def Guard2 (len n : Nat) (w w' : World) (e : Ending) : Prop := ∃ b : Bool, e = .returned (.bool b) ∧ (b = true → len ≤ 1048576 ∧ n ≤ 1048576) ∧ w = w'

set_option maxHeartbeats 1600000 in
theorem bytes17_any (a : Option Addr) (len cap : Nat) (hlen : len ≤ maxLen) (L V I : Nat → ByteArray) (b : Option Addr) (n capb : Nat) (hn : n ≤ maxLen) (S : Nat → ByteArray) (w : World) (hat : At3 w a len L V I) (hat1 : At1 w b n S)
    (hs : ∀ i, i < len → (L i).size ≤ maxLen ∧ (V i).size ≤ maxLen ∧ (I i).size ≤ maxLen) (hS : ∀ i, i < n → (S i).size ≤ maxLen) :
    Calls Try.prog 17 #[.slice a len cap, .slice b n capb] w fun e w' => Guard2 len n w w' e := by
  unfold maxLen at hlen hs hn hS
  by_cases hbig : (1048576 : Int) < (len : Int)
  · go_enter Try.func17, Try.ntmps17
    go_wp2
    go_ret
    exact ⟨_, rfl, by simp, rfl⟩
  have hbig' : (len : Int) ≤ 1048576 := by omega
  go_enter Try.func17, Try.ntmps17
  go_wp2
  go_loop [5, 6] (fun t i => ∃ (k : Nat) (z : Int), k ≤ len ∧ i = .int .i64 k ∧ t = .int .i64 z ∧ 0 ≤ z ∧ z ≤ 1048576) (fun _ i => len - (intOf i).toNat)
  case atStart => exact ⟨0, _, Nat.zero_le _, rfl, rfl, by omega, by omega⟩
  case round =>
    obtain ⟨k, z, hk, rfl, rfl, hz0, hz1⟩ := hrel
    by_cases hlt : k < len
    · obtain ⟨b1, o1, rfl, _, g0, g1, g2⟩ := hat.elem hlt
      obtain ⟨s0, s1, s2⟩ := hs k hlt
      clear hs hS
      go_wp2
      case roundEnd =>
        go_round
        case rel => exact ⟨k + 1, _, by omega, by go_num, rfl, by omega, by omega⟩
        case measure => simp [intOf]; omega
      all_goals
        go_ret
        exact ⟨_, rfl, by simp, rfl⟩
    · by_cases hbn : (1048576 : Int) < (n : Int)
      · go_wp2
        go_ret
        exact ⟨_, rfl, by simp, rfl⟩
      have hbn' : (n : Int) ≤ 1048576 := by omega
      go_wp2
      · go_ret
        exact ⟨_, rfl, by omega, rfl⟩
      · go_loop [5, 7] (fun t i => ∃ (k : Nat) (z : Int), k ≤ n ∧ i = .int .i64 k ∧ t = .int .i64 z ∧ 0 ≤ z ∧ z ≤ 1048576) (fun _ i => n - (intOf i).toNat)
        case atStart => exact ⟨0, _, Nat.zero_le _, rfl, rfl, by omega, by omega⟩
        case round =>
          obtain ⟨j, y, hj, rfl, rfl, hy0, hy1⟩ := hrel
          by_cases hltj : j < n
          · obtain ⟨b1, o1, rfl, _, g0⟩ := hat1.cells hltj
            have s0 := hS j hltj
            clear hs hS
            go_wp2
            case roundEnd =>
              go_round
              case rel => exact ⟨j + 1, _, by omega, by go_num, rfl, by omega, by omega⟩
              case measure => simp [intOf]; omega
            all_goals
              go_ret
              exact ⟨_, rfl, by omega, rfl⟩
          · go_wp2
            go_ret
            exact ⟨_, rfl, by omega, rfl⟩

set_option maxHeartbeats 800000 in
theorem strsbytes_any (b : Option Addr) (n capb : Nat) (hn : n ≤ maxLen) (S : Nat → ByteArray) (w : World) (hat1 : At1 w b n S) (hS : ∀ i, i < n → (S i).size ≤ maxLen) :
    Calls Try.prog 18 #[.slice b n capb] w fun e w' => ∃ z : Int, e = .returned (.int .i64 z) ∧ 0 ≤ z ∧ z ≤ 1048577 ∧ w = w' := by
  unfold maxLen at hn hS
  by_cases hbig : (4096 : Int) < (n : Int)
  · go_enter Try.func18, Try.ntmps18
    go_wp2
    go_ret
    exact ⟨_, rfl, by omega, by omega, rfl⟩
  go_enter Try.func18, Try.ntmps18
  go_wp2
  go_loop [3, 4] (fun t i => ∃ (k : Nat) (z : Int), k ≤ n ∧ i = .int .i64 k ∧ t = .int .i64 z ∧ 0 ≤ z ∧ z ≤ 1048576) (fun _ i => n - (intOf i).toNat)
  case atStart => exact ⟨0, _, Nat.zero_le _, rfl, rfl, by omega, by omega⟩
  case round =>
    obtain ⟨k, z, hk, rfl, rfl, hz0, hz1⟩ := hrel
    by_cases hlt : k < n
    · obtain ⟨b1, o1, rfl, _, g0⟩ := hat1.cells hlt
      have s0 := hS k hlt
      clear hS
      go_wp2
      case roundEnd =>
        go_round
        case rel => exact ⟨k + 1, _, by omega, by go_num, rfl, by omega, by omega⟩
        case measure => simp [intOf]; omega
      all_goals
        go_ret
        exact ⟨_, rfl, by omega, by omega, rfl⟩
    · go_wp2
      go_ret
      exact ⟨_, rfl, by omega, by omega, rfl⟩

set_option maxHeartbeats 800000 in
theorem hasvalue_any (a : Option Addr) (len cap : Nat) (hlen : len ≤ maxLen) (L V I : Nat → ByteArray) (v : ByteArray) (w : World) (hat : At3 w a len L V I) :
    Calls Try.prog 20 #[.slice a len cap, .string v] w fun e w' => e = .returned (.bool (offB V v len)) ∧ w = w' := by
  unfold maxLen at hlen
  go_enter Try.func20, Try.ntmps20
  go_wp2
  go_loop [5, 6] (fun f i => ∃ k : Nat, k ≤ len ∧ i = .int .i64 k ∧ f = .bool (offB V v k)) (fun _ i => len - (intOf i).toNat)
  case atStart => exact ⟨0, Nat.zero_le _, rfl, rfl⟩
  case round =>
    obtain ⟨k, hk, rfl, rfl⟩ := hrel
    by_cases hlt : k < len
    · obtain ⟨b1, o1, rfl, _, g0, g1, g2⟩ := hat.elem hlt
      have HS : Hid (offB V v (k + 1) = (offB V v k || ((V k).toList == v.toList))) := offB_succ V v k
      cases hh : ((V k).toList == v.toList) with
      | true =>
        go_wp2
        go_round
        case rel => exact ⟨k + 1, by omega, by go_num, by rw [HS.out, hh]; simp⟩
        case measure => simp [intOf]; omega
      | false =>
        go_wp2
        go_round
        case rel => exact ⟨k + 1, by omega, by go_num, by rw [HS.out, hh]; simp⟩
        case measure => simp [intOf]; omega
    · obtain rfl : len = k := by omega
      go_wp2
      go_ret
      exact ⟨rfl, rfl⟩

theorem Try.info9 : (Try.prog.info? 9).map (fun i => (i.zero, i.size, i.bytes)) = some (some (.string ⟨#[]⟩), 1, 16) := by kernel_rfl

theorem make1 (n : Nat) (hn : n ≤ 1048576) :
    ∃ cs : Array Value, Hid (cs.size = n) ∧ ∀ w : World, (Instr.makeSlice 33 (.int .i64 (n : Int)) (.int .i64 (n : Int))).run Try.prog w = .ok (.slice (some ⟨w.heap.size, 0, none⟩) n n) (w.alloc (.cells cs 9)) := by
  obtain ⟨i, hi, hz, hs, hb⟩ := info_parts Try.info9
  refine ⟨madeCells (Value.cells (.string ⟨#[]⟩)) (n * 1), by show _ = _; rw [size_madeCells, Nat.mul_one], fun w => ?_⟩
  have hr := run_make (P := Try.prog) w 33 9 i _ Try.underlying33 hi hz .i64 .i64 n n (by omega) (Int.le_refl _) (by rw [hb]; omega) (by omega)
  simp only [Int.toNat_natCast, hs] at hr
  exact hr

/-- What a made slice of strings holds behind k rounds. -/
def Own1 (w : World) (B n k : Nat) (S : Nat → ByteArray) : Prop := ∃ f : Nat → Value, w.rowIs B 9 n f ∧ ∀ i, i < k → f i = .string (S i)

theorem Own1.at1 {w : World} {B n : Nat} {S : Nat → ByteArray} (h : Own1 w B n n S) : At1 w (some ⟨B, 0, none⟩) n S := by
  obtain ⟨f, hr, hf⟩ := h
  exact .inr ⟨B, 0, rfl, hr.lt, fun i hi => by rw [Nat.zero_add, hr.cell hi, hf i hi]⟩

theorem Own1.made {w : World} {n : Nat} {cs : Array Value} (hs : cs.size = n) (S : Nat → ByteArray) : Own1 (w.alloc (.cells cs 9)) w.heap.size n 0 S := by
  refine ⟨fun i => cs.getD i (.bool false), ?_, fun i hi => absurd hi (Nat.not_lt_zero _)⟩
  have := World.rowIs_alloc w cs 9 (fun i => cs.getD i (.bool false)) (fun i hi => by simp [Array.getD, hi])
  rwa [hs] at this

theorem Own1.step {w : World} {B n k : Nat} {S : Nat → ByteArray} (h : Own1 w B n k S) : Own1 (w.setCell ⟨B, k, none⟩ (.string (S k))) B n (k + 1) S := by
  obtain ⟨f, hr, hf⟩ := h
  refine ⟨_, hr.set k _, fun i hi => ?_⟩
  by_cases e : i = k
  · subst e; simp
  · rw [if_neg e]; exact hf i (by omega)

set_option maxHeartbeats 800000 in
theorem clonestrs_all (b : Option Addr) (n capb : Nat) (hn : n ≤ 1048576) (hnil : b = none → n = 0 ∧ capb = 0) (S : Nat → ByteArray) (w : World) (hat1 : At1 w b n S) :
    Calls Try.prog 19 #[.slice b n capb] w fun e w' => ∃ b', e = .returned (.slice b' n n) ∧ At1 w' b' n S ∧ Below w.heap.size w w' := by
  cases b with
  | none =>
    obtain ⟨rfl, rfl⟩ := hnil rfl
    have hnl := fun w => Lib.run_eql_slice_nil (P := Try.prog) w 33 9 none 0 0 0 0 Try.underlying33
    go_enter Try.func19, Try.ntmps19
    go_wp2
    go_ret
    exact ⟨none, rfl, .inl rfl, Below.refl _ _⟩
  | some x =>
    obtain ⟨cs, hcs, hmk⟩ := make1 n hn
    have hnl := fun w => Lib.run_eql_slice_nil (P := Try.prog) w 33 9 (some x) n capb 0 0 Try.underlying33
    go_enter Try.func19, Try.ntmps19
    go_wp2
    go_loopw [4] (fun i wr => ∃ k : Nat, k ≤ n ∧ i = .int .i64 k ∧ Own1 wr w.heap.size n k S ∧ Below w.heap.size w wr) (fun i _ => n - (intOf i).toNat)
    case atStart => exact ⟨0, Nat.zero_le _, rfl, Own1.made hcs.out S, (Below.refl _ _).alloc (Nat.le_refl _) _⟩
    case round =>
      clear hmk hnl
      obtain ⟨k, hk, rfl, hown, hbel⟩ := hrel
      by_cases hlt : k < n
      · obtain ⟨b1, o1, hx, _, g0⟩ := (hat1.below hbel (Nat.le_refl _)).cells hlt
        obtain rfl : x = ⟨b1, o1, none⟩ := by simpa using hx
        have hst := hown.step
        obtain ⟨f, hr, _⟩ := hown
        have c0 := hr.cell hlt
        have f0 := hr.frozen k
        have hki : (k : Int) < (n : Int) := by omega
        clear hx
        go_wp2
        go_roundw
        case rel => exact ⟨k + 1, by omega, by go_num, hst, hbel.setCell (Nat.le_refl _) _⟩
        case measure => simp [intOf]; omega
      · obtain rfl : n = k := by omega
        go_wp2
        go_ret
        exact ⟨_, rfl, hown.at1, hbel⟩

end Go.Proofs.Qxb6602938a
