/-
  Seat b6602938a: the size guards of two laws, and the contracts of zzCloneOpts and zzToOptions for nil and other slices at once.
-/
import Derived.Test.Qxb6602938aToOpt
import Derived.Test.Qxb6602938aSplit
namespace Go.Proofs.Qxb6602938a
open Go.RowKit

set_option maxHeartbeats 1600000 in
theorem bytes14_any (a : Option Addr) (len cap : Nat) (hlen : len ≤ maxLen) (L V I : Nat → ByteArray) (v : ByteArray) (w : World) (hat : At3 w a len L V I)
    (hs : ∀ i, i < len → (L i).size ≤ maxLen ∧ (V i).size ≤ maxLen ∧ (I i).size ≤ maxLen) (hv : v.size ≤ maxLen) :
    Calls Try.prog 14 #[.slice a len cap, .string v] w fun e w' => Guard len w w' e := by
  unfold maxLen at hlen hs hv
  by_cases hbig : (1048576 : Int) < (len : Int)
  · go_enter Try.func14, Try.ntmps14
    go_wp2
    go_ret
    exact ⟨_, rfl, by simp, rfl⟩
  have hbig' : (len : Int) ≤ 1048576 := by omega
  rcases hat with rfl | ⟨b, off, rfl, hb, hc⟩
  · go_enter Try.func14, Try.ntmps14
    go_wp2
    refine wp_loop_rounds 1 ?_
    rw [rounds_succ]
    go_wp2
    all_goals
      go_ret
      exact ⟨_, rfl, by omega, rfl⟩
  go_enter Try.func14, Try.ntmps14
  go_wp2
  go_loop [5, 6] (fun t i => ∃ (k : Nat) (n : Int), k ≤ len ∧ i = .int .i64 k ∧ t = .int .i64 n ∧ 0 ≤ n ∧ n ≤ 1048576) (fun _ i => len - (intOf i).toNat)
  case atStart => exact ⟨0, _, Nat.zero_le _, rfl, rfl, by omega, by omega⟩
  case round =>
    obtain ⟨k, n, hk, rfl, rfl, hn0, hn1⟩ := hrel
    by_cases hlt : k < len
    · obtain ⟨g0, g1, g2⟩ := hc k hlt
      obtain ⟨s0, s1, s2⟩ := hs k hlt
      clear hc hs
      go_wp2
      case roundEnd =>
        go_round
        case rel => exact ⟨k + 1, _, by omega, by go_num, rfl, by omega, by omega⟩
        case measure => simp [intOf]; omega
      all_goals
        go_ret
        exact ⟨_, rfl, by omega, rfl⟩
    · go_wp2
      all_goals
        go_ret
        exact ⟨_, rfl, by omega, rfl⟩


set_option maxHeartbeats 1600000 in
theorem bytes16_any (a : Option Addr) (len cap : Nat) (hlen : len ≤ maxLen) (L V I : Nat → ByteArray) (v : ByteArray) (w : World) (hat : At3 w a len L V I)
    (hs : ∀ i, i < len → (L i).size ≤ maxLen ∧ (V i).size ≤ maxLen ∧ (I i).size ≤ maxLen) (hv : v.size ≤ maxLen) :
    Calls Try.prog 16 #[.slice a len cap, .string v] w fun e w' => Guard len w w' e := by
  unfold maxLen at hlen hs hv
  by_cases hbig : (1048576 : Int) < (len : Int)
  · go_enter Try.func16, Try.ntmps16
    go_wp2
    go_ret
    exact ⟨_, rfl, by simp, rfl⟩
  have hbig' : (len : Int) ≤ 1048576 := by omega
  rcases hat with rfl | ⟨b, off, rfl, hb, hc⟩
  · go_enter Try.func16, Try.ntmps16
    go_wp2
    refine wp_loop_rounds 1 ?_
    rw [rounds_succ]
    go_wp2
    all_goals
      go_ret
      exact ⟨_, rfl, by omega, rfl⟩
  go_enter Try.func16, Try.ntmps16
  go_wp2
  go_loop [5, 6] (fun t i => ∃ (k : Nat) (n : Int), k ≤ len ∧ i = .int .i64 k ∧ t = .int .i64 n ∧ 0 ≤ n ∧ n ≤ 1048576) (fun _ i => len - (intOf i).toNat)
  case atStart => exact ⟨0, _, Nat.zero_le _, rfl, rfl, by omega, by omega⟩
  case round =>
    obtain ⟨k, n, hk, rfl, rfl, hn0, hn1⟩ := hrel
    by_cases hlt : k < len
    · obtain ⟨g0, g1, g2⟩ := hc k hlt
      obtain ⟨s0, s1, s2⟩ := hs k hlt
      clear hc hs
      go_wp2
      case roundEnd =>
        go_round
        case rel => exact ⟨k + 1, _, by omega, by go_num, rfl, by omega, by omega⟩
        case measure => simp [intOf]; omega
      all_goals
        go_ret
        exact ⟨_, rfl, by omega, rfl⟩
    · go_wp2
      all_goals
        go_ret
        exact ⟨_, rfl, by omega, rfl⟩


theorem cloneopts_all (a : Option Addr) (len cap : Nat) (hlen : len ≤ 1048576) (hnil : a = none → len = 0 ∧ cap = 0) (L V I : Nat → ByteArray) (w : World) (hat : At3 w a len L V I) :
    Calls Try.prog 11 #[.slice a len cap] w fun e w' => ∃ a', e = .returned (.slice a' len len) ∧ (a' = none → len = 0) ∧ At3 w' a' len L V I ∧ Below w.heap.size w w' := by
  cases a with
  | none =>
    obtain ⟨rfl, rfl⟩ := hnil rfl
    refine (cloneopts_nil w).mono ?_
    rintro e w' ⟨rfl, rfl⟩
    exact ⟨none, rfl, fun _ => rfl, .inl rfl, Below.refl _ _⟩
  | some x =>
    refine (cloneopts_some x len cap hlen L V I w hat).mono ?_
    rintro e w' ⟨rfl, hown, hb⟩
    exact ⟨_, rfl, fun h => (by cases h), hown.at3, hb⟩

theorem tooptions_all (a : Option Addr) (len : Nat) (hlen : len ≤ 1048576) (hnil : a = none → len = 0) (L V I : Nat → ByteArray) (w : World) (hat : At3 w a len L V I) :
    Calls Try.prog 12 #[.slice a len len] w fun e w' => ∃ a', e = .returned (.slice a' len len) ∧ (a' = none → len = 0) ∧ At3 w' a' len L V I ∧ Below w.heap.size w w' := by
  cases a with
  | none =>
    obtain rfl := hnil rfl
    refine (tooptions_nil w).mono ?_
    rintro e w' ⟨rfl, rfl⟩
    exact ⟨none, rfl, fun _ => rfl, .inl rfl, Below.refl _ _⟩
  | some x =>
    refine (tooptions_some x len len hlen L V I w hat).mono ?_
    rintro e w' ⟨rfl, hown, hb⟩
    exact ⟨_, rfl, fun h => (by cases h), hown.at3, hb⟩

end Go.Proofs.Qxb6602938a
