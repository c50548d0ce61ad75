/-
  Seat b6602938a: what the walk is told of a slice of strings that came in.
-/
import Derived.Test.Qxb6602938aOpen
import Derived.Test.Qxb6602938aEach
namespace Go.Proofs.Qxb6602938a
open Go.ChangeShapes Go.WideShapes Go.ChangeAt Go.RowKit

theorem open_values {H : Type} {enc : TypeId × Value → H} {w : World} {base : Nat} {held : Bool} {fuel : Nat} {a : Option Addr} {len cap : Nat} {x : DataW H × List MemPlace}
    (h : DataW.trod enc Try.prog w base (fun _ => true) held fuel 33 [.slice a len cap] = some x) :
    (a = none → len = 0 ∧ cap = 0) ∧ len ≤ maxLen ∧ ∃ S : Nat → ByteArray, At1 w a len S ∧ ∀ i, i < len → (S i).size ≤ maxLen := by
  rcases Deep.open_strs Try.underlying33 Try.underlying9 Try.cells9 h with ⟨hcs, _⟩ | ⟨ad, len', cap', m, Sx, hcs, _, hl, hm, hmm, _, hx⟩
  · simp only [List.cons.injEq, Value.slice.injEq, and_true] at hcs
    obtain ⟨rfl, rfl, rfl⟩ := hcs
    exact ⟨fun _ => ⟨rfl, rfl⟩, by simp, fun _ => ⟨#[]⟩, .inl rfl, fun i hi => absurd hi (Nat.not_lt_zero _)⟩
  · simp only [List.cons.injEq, Value.slice.injEq, and_true] at hcs
    obtain ⟨rfl, rfl, rfl⟩ := hcs
    simp only [if_true] at hmm
    subst hmm
    refine ⟨by simp, by omega, Sx, ?_, fun i hi => (hx i (by omega)).2⟩
    by_cases hz : len = 0
    · exact .inl hz
    obtain ⟨b, off, spot⟩ := ad
    have hspot : spot = none := by simpa [Addr.add] using World.cell?_spot (hx 0 (by omega)).1
    subst hspot
    have hlt : b < w.heap.size := by
      have h0 := (hx 0 (by omega)).1
      rcases Nat.lt_or_ge b w.heap.size with h' | h'
      · exact h'
      · simp [World.cell?, Addr.add, Array.getElem?_eq_none h'] at h0
    refine .inr ⟨b, off, rfl, hlt, fun i hi => ?_⟩
    have h0 := (hx i (by omega)).1
    rwa [add_plain] at h0

end Go.Proofs.Qxb6602938a
