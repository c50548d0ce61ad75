/-
  Seat b6602938a: the walk of FnOffersIsOffersEachOfOne.
-/
import Derived.Test.Qxb6602938aGuards
import Derived.Test.Qxb6602938aEach
namespace Go.Proofs.Qxb6602938a
open Go.RowKit

theorem okTo_one (V : Nat → ByteArray) (v : ByteArray) (m : Nat) : okTo (fun _ => v) V m 1 = offB V v m := by
  simp [okTo, offB_zero]

theorem okTo_two (V : Nat → ByteArray) (v : ByteArray) (m : Nat) : okTo (fun _ => v) V m 2 = false := by
  have : offB (fun _ => v) v 1 = true := offB_hit (k := 0) (by omega) (by simp)
  simp [okTo, this]

/-- The lists [v] and [v, v], laid one behind the other. -/
theorem lists_laid (w : World) (v : ByteArray) :
    At1 ((w.alloc (.cells #[.string v] 9)).alloc (.cells #[.string v, .string v] 9)) (some ⟨w.heap.size, 0, none⟩) 1 (fun _ => v) ∧
    At1 ((w.alloc (.cells #[.string v] 9)).alloc (.cells #[.string v, .string v] 9)) (some ⟨w.heap.size + 1, 0, none⟩) 2 (fun _ => v) ∧
    Below w.heap.size w ((w.alloc (.cells #[.string v] 9)).alloc (.cells #[.string v, .string v] 9)) := by
  have hsz : (w.alloc (.cells #[.string v] 9)).heap.size = w.heap.size + 1 := by simp
  refine ⟨.inr ⟨w.heap.size, 0, rfl, by simp; omega, fun i hi => ?_⟩, .inr ⟨w.heap.size + 1, 0, rfl, by simp, fun i hi => ?_⟩, ((Below.refl _ _).alloc (Nat.le_refl _) _).alloc (by simp) _⟩
  · obtain rfl : i = 0 := by omega
    rw [World.cell?_alloc_lt _ _ _ (by simp), Nat.zero_add, World.cell?_alloc_new]
    rfl
  · have e := World.cell?_alloc_new (w.alloc (.cells #[.string v] 9)) #[.string v, .string v] 9 i
    rw [hsz] at e
    rw [Nat.zero_add, e]
    match i, hi with
    | 0, _ => rfl
    | 1, _ => rfl

set_option maxHeartbeats 1600000 in
theorem one_walk (a : Option Addr) (len cap : Nat) (hnil : a = none → len = 0 ∧ cap = 0) (hlen : len ≤ maxLen) (L V I : Nat → ByteArray) (v : ByteArray) (w : World) (hat : At3 w a len L V I)
    (hs : ∀ i, i < len → (L i).size ≤ maxLen ∧ (V i).size ≤ maxLen ∧ (I i).size ≤ maxLen) (hv : v.size ≤ maxLen) :
    Calls Try.prog 4 #[.slice a len cap, .string v] w fun e w' => e = .returned (.bool true) ∧ Below w.heap.size w w' := by
  go_enter Try.func4, Try.ntmps4
  go_wp2_with fail
  refine (bytes14_any a len cap hlen L V I v _ hat hs hv).mono ?_
  rintro e w1 ⟨b, rfl, hbb, rfl⟩
  cases b with
  | false =>
    go_wp2
    go_ret
    exact ⟨rfl, Below.refl _ _⟩
  | true =>
    have hl20 : len ≤ 1048576 := hbb rfl
    clear hbb
    go_wp2_with fail
    refine (optbytes_any a len cap hlen L V I _ hat hs).mono ?_
    rintro e w1 ⟨n1, rfl, h10, h11, rfl⟩
    go_wp2_with fail
    refine (strbytes_any v hv _).mono ?_
    rintro e w1 ⟨n2, rfl, h20, h21, rfl⟩
    by_cases hbig : 1048576 < n1 + n2
    · go_wp2
      go_ret
      exact ⟨rfl, Below.refl _ _⟩
    go_wp2_with fail
    refine (cloneopts_all a len cap hl20 hnil L V I _ hat).mono ?_
    rintro e w1 ⟨a1, rfl, hn1, A1, B1⟩
    go_wp2_with fail
    refine (tooptions_all a1 len hl20 hn1 L V I _ A1).mono ?_
    rintro e w2 ⟨a2, rfl, hn2, A2, B2⟩
    replace B1 := B1.trans (B2.mono B1.size)
    clear B2 hat hnil hn1 hn2 A1
    have hV : ∀ i, i < len → (V i).size ≤ maxLen := fun i hi => (hs i hi).2.1
    clear hs
    obtain ⟨S1, S2, B3⟩ := lists_laid w2 v
    replace A2 := A2.below B3 (Nat.le_refl _)
    replace B1 := B1.trans (B3.mono B1.size)
    clear B3
    go_wp2_with fail
    refine (zzoffers_any a2 len len hlen L V I v _ A2).mono ?_
    rintro e w3 ⟨rfl, hb3⟩
    replace A2 := A2.below hb3 (Nat.le_refl _)
    replace S1 := S1.below hb3 (Nat.le_refl _)
    replace S2 := S2.below hb3 (Nat.le_refl _)
    replace B1 := B1.trans (hb3.mono B1.size)
    clear hb3
    go_wp2_with fail
    refine (zzeach_any a2 len len hl20 L V I _ 1 1 (by omega) (fun _ => v) _ A2 S1 hV (fun _ _ => hv)).mono ?_
    rintro e w4 ⟨rfl, hb3⟩
    replace A2 := A2.below hb3 (Nat.le_refl _)
    replace S2 := S2.below hb3 (Nat.le_refl _)
    replace B1 := B1.trans (hb3.mono B1.size)
    clear hb3
    rw [okTo_one]
    generalize offB V v len = p
    cases p
    all_goals
      go_wp2_with fail
      refine (zzeach_any a2 len len hl20 L V I _ 2 2 (by omega) (fun _ => v) _ A2 S2 hV (fun _ _ => hv)).mono ?_
      rintro e w5 ⟨rfl, hb3⟩
      replace B1 := B1.trans (hb3.mono B1.size)
      clear hb3
      rw [okTo_two]
      go_wp2
      go_ret
      exact ⟨rfl, B1⟩

end Go.Proofs.Qxb6602938a
