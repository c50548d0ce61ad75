/-
  Seat b6602938a: the walk of FnOffersEachIsDistinctAndOffered.
-/
import Derived.Test.Qxb6602938aDistA
import Derived.BigRegion
import Derived.RegionTactic
namespace Go.Proofs.Qxb6602938a
open Go.RowKit

theorem okTo_mono (S V : Nat → ByteArray) (m k : Nat) (h : okTo S V m k = false) (n : Nat) (hn : k ≤ n) : okTo S V m n = false := by
  induction n with
  | zero => obtain rfl : k = 0 := by omega
            exact h
  | succ n ih =>
    by_cases e : k = n + 1
    · subst e; exact h
    · simp [okTo, ih (by omega)]

theorem At3.drew {w : World} {a : Option Addr} {len : Nat} {L V I : Nat → ByteArray} (h : At3 w a len L V I) : At3 w.drew a len L V I := h
theorem At1.drew {w : World} {a : Option Addr} {n : Nat} {S : Nat → ByteArray} (h : At1 w a n S) : At1 w.drew a n S := h

set_option maxHeartbeats 1600000 in
theorem dist_walk (a : Option Addr) (len cap : Nat) (hnil : a = none → len = 0 ∧ cap = 0) (hlen : len ≤ maxLen) (L V I : Nat → ByteArray) (b : Option Addr) (n capb : Nat) (hnilb : b = none → n = 0 ∧ capb = 0) (hn : n ≤ maxLen) (S : Nat → ByteArray)
    (w : World) (hat : At3 w a len L V I) (hat1 : At1 w b n S)
    (hs : ∀ i, i < len → (L i).size ≤ maxLen ∧ (V i).size ≤ maxLen ∧ (I i).size ≤ maxLen) (hS : ∀ i, i < n → (S i).size ≤ maxLen) :
    Calls Try.prog 6 #[.slice a len cap, .slice b n capb] w fun e w' => e = .returned (.bool true) ∧ Below w.heap.size w w' := by
  go_enter Try.func6, Try.ntmps6
  go_wp2_with fail
  refine (bytes17_any a len cap hlen L V I b n capb hn S _ hat hat1 hs hS).mono ?_
  rintro e w1 ⟨bb, rfl, hbb, rfl⟩
  cases bb with
  | false =>
    go_wp2
    go_ret
    exact ⟨rfl, Below.refl _ _⟩
  | true =>
    obtain ⟨hl20, hn20⟩ : len ≤ 1048576 ∧ n ≤ 1048576 := hbb rfl
    clear hbb
    go_wp2_with fail
    refine (optbytes_any a len cap hlen L V I _ hat hs).mono ?_
    rintro e w1 ⟨n1, rfl, h10, h11, rfl⟩
    go_wp2_with fail
    refine (strsbytes_any b n capb hn S _ hat1 hS).mono ?_
    rintro e w1 ⟨n2, rfl, h20, h21, rfl⟩
    by_cases hbig : 1048576 < n1 + n2
    · go_wp2
      go_ret
      exact ⟨rfl, Below.refl _ _⟩
    go_wp2_with fail
    refine (cloneopts_all a len cap hl20 hnil L V I _ hat).mono ?_
    rintro e w1 ⟨a1, rfl, hn1, A1, B1⟩
    have S1 := hat1.below B1 (Nat.le_refl _)
    clear hat1
    go_wp2_with fail
    refine (clonestrs_all b n capb hn20 hnilb S _ S1).mono ?_
    rintro e w2 ⟨b2, rfl, S2, B2⟩
    replace A1 := A1.below B2 (Nat.le_refl _)
    replace B1 := B1.trans (B2.mono B1.size)
    clear B2 S1
    go_wp2_with fail
    refine (tooptions_all a1 len hl20 hn1 L V I _ A1).mono ?_
    rintro e w3 ⟨a2, rfl, hn2, A2, B2⟩
    replace A1 := A1.below B2 (Nat.le_refl _)
    replace S2 := S2.below B2 (Nat.le_refl _)
    replace B1 := B1.trans (B2.mono B1.size)
    clear B2 hat hnil hnilb hn1 hn2
    have hV : ∀ i, i < len → (V i).size ≤ maxLen := fun i hi => (hs i hi).2.1
    clear hs
    go_wp2_with fail
    refine (zzeach_any a2 len len hl20 L V I b2 n n hn20 S _ A2 S2 hV hS).mono ?_
    rintro e w4 ⟨rfl, B2⟩
    replace A1 := A1.below B2 (Nat.le_refl _)
    replace S2 := S2.below B2 (Nat.le_refl _)
    replace B1 := B1.trans (B2.mono B1.size)
    clear B2 A2 hV hS
    go_wp2_with fail
    go_loopw [7, 8] (fun t i wr => ∃ k : Nat, k ≤ n ∧ i = .int .i64 k ∧ t = .bool (okTo S V len k) ∧ At3 wr a1 len L V I ∧ At1 wr b2 n S ∧ Below w.heap.size w wr) (fun _ i _ => n - (intOf i).toNat)
    case atStart => exact ⟨0, Nat.zero_le _, rfl, rfl, A1, S2, B1⟩
    case round =>
      clear A1 S2 B1
      obtain ⟨k, hk, rfl, rfl, A1, S2, B1⟩ := hrel
      by_cases hlt : k < n
      · cases hok : okTo S V len k with
        | false =>
          have hfin := okTo_mono S V len k hok n hk
          rw [hfin]
          clear hfin
          go_wp2
          go_ret
          exact ⟨rfl, B1⟩
        | true =>
          obtain ⟨wm, rfl⟩ : ∃ x, x = wr := ⟨_, rfl⟩
          have HK : Hid (okTo S V len (k + 1) = (!offB S (S k) k && offB V (S k) len)) := by show _ = _; simp [okTo, hok]
          clear hok
          go_wp2_with fail
          go_loopw [7, 9] (fun t i wr => ∃ j : Nat, j ≤ k ∧ i = .int .i64 j ∧ t = .bool true ∧ Hid (offB S (S k) j = false) ∧ At3 wr a1 len L V I ∧ At1 wr b2 n S ∧ Below w.heap.size w wr) (fun _ i _ => k - (intOf i).toNat)
          case atStart => exact ⟨0, Nat.zero_le _, rfl, rfl, offB_zero S (S k), A1, S2, B1⟩
          case round =>
            clear A1 S2 B1
            obtain ⟨j, hj, rfl, rfl, hno, A1, S2, B1⟩ := hrel
            obtain ⟨b1, o1, rfl, _, gk⟩ := S2.cells hlt
            by_cases hltj : j < k
            · have gj := S2.cellAt (k := j) (by omega)
              have hjn : (j : Int) < (n : Int) := by omega
              have hkn : (k : Int) < (n : Int) := by omega
              cases hh : ((S j).toList == (S k).toList) with
              | true =>
                have HH := offB_hit (V := S) (v := S k) hltj hh
                rw [HH] at HK
                clear HH
                go_wp2
                go_region
                all_goals go_wp2
                all_goals
                  go_roundw
                  case rel => exact ⟨k + 1, by omega, by go_num, by rw [HK.out]; rfl, A1.drew, S2.drew, B1.drew⟩
                  case measure => simp [intOf]; omega
              | false =>
                have HN : Hid (offB S (S k) (j + 1) = false) := by show _ = _; rw [offB_succ, hno.out, hh]; rfl
                go_wp2
                go_region
                all_goals go_wp2
                all_goals
                  go_roundw
                  case rel => exact ⟨j + 1, by omega, by go_num, rfl, HN, A1.drew, S2.drew, B1.drew⟩
                  case measure => simp [intOf]; omega
            · obtain rfl : k = j := by omega
              rw [hno.out] at HK
              go_wp2_with fail
              refine (hasvalue_any a1 len len hlen L V I (S k) _ A1).mono ?_
              rintro e w5 ⟨rfl, rfl⟩
              cases ho : offB V (S k) len with
              | true =>
                rw [ho] at HK
                clear ho
                go_wp2
                go_roundw
                case rel => exact ⟨k + 1, by omega, by go_num, by rw [HK.out]; rfl, A1, S2, B1⟩
                case measure => simp [intOf]; omega
              | false =>
                rw [ho] at HK
                clear ho
                go_wp2
                go_roundw
                case rel => exact ⟨k + 1, by omega, by go_num, by rw [HK.out]; rfl, A1, S2, B1⟩
                case measure => simp [intOf]; omega
      · obtain rfl : n = k := by omega
        generalize okTo S V len n = p
        cases p
        all_goals
          go_wp2
          go_ret
          exact ⟨rfl, B1⟩

end Go.Proofs.Qxb6602938a
