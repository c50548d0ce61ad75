/-
  Seat b6603478a: the size guard and the walk of FnSkipSpaceShiftsByPadding.
-/
import Derived.Test.Qxb6603478aPad
namespace Go.Proofs.Qxb6603478a
open Go.RowKit

/-- A size guard answers some bool and changes nothing. -/
def GuardS (w w' : World) (e : Ending) : Prop := ∃ b : Bool, e = .returned (.bool b) ∧ w = w'

set_option maxHeartbeats 400000 in
theorem bytes10_any (a : Option Addr) (n cap : Nat) (i : Int) (w : World) : Calls Try.prog 10 #[.slice a n cap, .int .i64 i] w fun e w' => GuardS w w' e := by
  by_cases h : (1048576 : Int) < (n : Int)
  · go_enter Try.func10, Try.ntmps10
    go_wp2
    go_ret
    exact ⟨_, rfl, rfl⟩
  · have h' : (n : Int) ≤ 1048576 := by omega
    go_enter Try.func10, Try.ntmps10
    go_wp2
    go_ret
    exact ⟨_, rfl, rfl⟩

set_option maxHeartbeats 1600000 in
theorem shift_walk (a : Option Addr) (zs : List Int) (cap : Nat) (hnil : a = none → zs.length = 0 ∧ cap = 0) (i : Int) (w : World) (hat : AtB w a zs) :
    Calls Try.prog 4 #[.slice a zs.length cap, .int .i64 i] w fun e w' => e = .returned (.bool true) ∧ Below w.heap.size w w' := by
  go_enter Try.func4, Try.ntmps4
  go_wp2_with fail
  refine (bytes10_any a zs.length cap i _).mono ?_
  rintro e w1 ⟨b, rfl, rfl⟩
  cases b with
  | false =>
    go_wp2
    go_ret
    exact ⟨rfl, Below.refl _ _⟩
  | true =>
    by_cases hbig : (1048576 : Int) < (zs.length : Int)
    · go_wp2
      go_ret
      exact ⟨rfl, Below.refl _ _⟩
    by_cases hneg : i < 0
    · go_wp2
      go_ret
      exact ⟨rfl, Below.refl _ _⟩
    by_cases hgt : 65536 < i
    · go_wp2
      go_ret
      exact ⟨rfl, Below.refl _ _⟩
    have hlen : zs.length ≤ 1048576 := by omega
    obtain ⟨n, rfl⟩ := Int.eq_ofNat_of_zero_le (Int.not_lt.1 hneg)
    have hn : n ≤ 65536 := by omega
    go_wp2_with fail
    refine (copybytes_all a zs cap hlen hnil _ hat).mono ?_
    rintro e w1 ⟨a1, rfl, hz1, _, A1, B1⟩
    clear hat hnil
    go_wp2_with fail
    refine (zzskip_any a1 zs zs.length (by unfold maxLen; omega) 0 _ A1).mono ?_
    rintro e w2 ⟨r, rfl, hr, rfl⟩
    have hrl : r ≤ zs.length := by have := hr.2.1; omega
    have HR : Hid (Skips zs 0 r) := hr
    clear hr
    obtain ⟨ps, hps⟩ : ∃ ps, ps = pads n ++ zs := ⟨_, rfl⟩
    have hpl : ps.length ≤ 1114112 := by rw [hps, List.length_append, pads_length]; omega
    have S0 : Hid (∀ j, j ≤ n → Skips ps j (n + r)) := fun j hj => by rw [hps]; exact skips_pad HR.out hj
    have HP : Hid (ps = pads n ++ zs) := hps
    clear hps HR
    go_wp2_with fail
    refine (padfront_any n hn a1 zs hlen hz1 ps HP _ A1).mono ?_
    rintro e w2 ⟨a2, rfl, _, _, A2, B2⟩
    replace B1 := B1.trans (B2.mono B1.size)
    clear B2 A1 HP hz1
    go_wp2_with fail
    refine (zzskip_any a2 ps ps.length (by unfold maxLen; omega) 0 _ A2).mono ?_
    rintro e w3 ⟨r0, rfl, h0, rfl⟩
    obtain rfl := h0.unique (S0.out 0 (by omega))
    clear h0
    go_wp2_with fail
    rw [show ((n : Int) / 2) = ((n / 2 : Nat) : Int) from by omega]
    refine (zzskip_any a2 ps ps.length (by unfold maxLen; omega) (n / 2) _ A2).mono ?_
    rintro e w3 ⟨r1, rfl, h1, rfl⟩
    obtain rfl := h1.unique (S0.out (n / 2) (by omega))
    clear h1
    go_wp2_with fail
    refine (zzskip_any a2 ps ps.length (by unfold maxLen; omega) n _ A2).mono ?_
    rintro e w3 ⟨r2, rfl, h2, rfl⟩
    obtain rfl := h2.unique (S0.out n (by omega))
    clear h2
    go_wp2
    go_ret
    exact ⟨rfl, B1⟩

end Go.Proofs.Qxb6603478a
