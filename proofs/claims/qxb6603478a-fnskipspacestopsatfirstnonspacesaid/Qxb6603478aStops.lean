/-
  Seat b6603478a: the size guard and the walk of FnSkipSpaceStopsAtFirstNonSpace.
-/
import Derived.Test.Qxb6603478aCore
namespace Go.Proofs.Qxb6603478a
open Go.RowKit

/-- A size guard answers some bool and changes nothing. -/
def GuardB (w w' : World) (e : Ending) : Prop := ∃ b : Bool, e = .returned (.bool b) ∧ w = w'

set_option maxHeartbeats 400000 in
theorem bytes6_any (a : Option Addr) (n cap : Nat) (i : Int) (w : World) : Calls Try.prog 6 #[.slice a n cap, .int .i64 i] w fun e w' => GuardB w w' e := by
  by_cases h : (1048576 : Int) < (n : Int)
  · go_enter Try.func6, Try.ntmps6
    go_wp2
    go_ret
    exact ⟨_, rfl, rfl⟩
  · have h' : (n : Int) ≤ 1048576 := by omega
    go_enter Try.func6, Try.ntmps6
    go_wp2
    go_ret
    exact ⟨_, rfl, rfl⟩

set_option maxHeartbeats 1600000 in
theorem stops_walk (a : Option Addr) (zs : List Int) (cap : Nat) (hnil : a = none → zs.length = 0 ∧ cap = 0) (i : Int) (hi : (Lit.int .i64 i).wf = true) (w : World) (hat : AtB w a zs) :
    Calls Try.prog 3 #[.slice a zs.length cap, .int .i64 i] w fun e w' => e = .returned (.bool true) ∧ Below w.heap.size w w' := by
  go_enter Try.func3, Try.ntmps3
  go_wp2_with fail
  refine (bytes6_any a zs.length cap i _).mono ?_
  rintro e w1 ⟨b, rfl, rfl⟩
  cases b with
  | false =>
    go_wp2
    go_ret
    exact ⟨rfl, Below.refl _ _⟩
  | true =>
    by_cases hbig : (1048576 : Int) < (zs.length : Int)
    · go_wp2
      go_ret
      exact ⟨rfl, Below.refl _ _⟩
    by_cases hneg : i < 0
    · go_wp2
      go_ret
      exact ⟨rfl, Below.refl _ _⟩
    have hlen : zs.length ≤ 1048576 := by omega
    obtain ⟨ni, rfl⟩ := Int.eq_ofNat_of_zero_le (Int.not_lt.1 hneg)
    clear hi
    go_wp2_with fail
    refine (copybytes_all a zs cap hlen hnil _ hat).mono ?_
    rintro e w1 ⟨a1, rfl, hz1, _, A1, B1⟩
    clear hat hnil hz1
    go_wp2_with fail
    refine (zzskip_any a1 zs zs.length (by unfold maxLen; omega) ni _ A1).mono ?_
    rintro e w2 ⟨r, rfl, hr, rfl⟩
    obtain ⟨hr1, hr2, hr3, hr4⟩ := hr
    have HR3 : Hid (∀ k, ni ≤ k → k < r → sp (zs.getD k 0) = true) := hr3
    have HR4 : Hid (r < zs.length → sp (zs.getD r 0) = false) := hr4
    clear hr3 hr4
    by_cases hge : zs.length ≤ ni
    · obtain rfl : ni = r := by omega
      go_wp2
      go_ret
      exact ⟨rfl, B1⟩
    have hrl : r ≤ zs.length := by omega
    have hlt1 : decide (r < ni) = false := decide_eq_false (by omega)
    have hlt2 : decide (zs.length < r) = false := decide_eq_false (by omega)
    go_wp2_with fail
    go_loopw [6] (fun t wr => ∃ k : Nat, ni ≤ k ∧ k ≤ r ∧ t = .int .i64 k ∧ AtB wr a1 zs ∧ Below w.heap.size w wr) (fun t _ => r - (intOf t).toNat)
    case atStart => exact ⟨ni, Nat.le_refl _, hr1, rfl, A1, B1⟩
    case round =>
      clear A1 B1
      obtain ⟨k, hk1, hk2, rfl, A1, B1⟩ := hrel
      by_cases hkr : k < r
      · obtain ⟨bb, off, rfl, _, g⟩ := A1.elem (k := k) (by omega)
        have hs := HR3.out k hk1 hkr
        generalize zs.getD k 0 = z at g hs
        have hki : (k : Int) < (zs.length : Int) := by omega
        have HS : Hid (sp z = true) := hs
        clear hs
        go_wp2_with fail
        refine (isspace_any z _).mono ?_
        rintro e w3 ⟨rfl, rfl⟩
        rw [HS.out]
        go_wp2
        go_roundw
        case rel => exact ⟨k + 1, by omega, by omega, by go_num, A1, B1⟩
        case measure => simp [intOf]; omega
      · obtain rfl : k = r := by omega
        by_cases hend : k = zs.length
        · subst hend
          go_wp2
          go_ret
          exact ⟨rfl, B1⟩
        · obtain ⟨bb, off, rfl, _, g⟩ := A1.elem (k := k) (by omega)
          have hs := HR4.out (by omega)
          generalize zs.getD k 0 = z at g hs
          have hki : (k : Int) < (zs.length : Int) := by omega
          have hkb : ((k : Int) == (zs.length : Int)) = false := by simp; omega
          have HS : Hid (sp z = false) := hs
          clear hs
          go_wp2_with fail
          refine (isspace_any z _).mono ?_
          rintro e w3 ⟨rfl, rfl⟩
          rw [HS.out]
          go_wp2
          go_ret
          exact ⟨rfl, B1⟩

end Go.Proofs.Qxb6603478a
