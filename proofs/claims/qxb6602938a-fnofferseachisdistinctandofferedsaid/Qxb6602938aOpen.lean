/-
  Seat b6602938a: what the walk is told of a slice of ZOption that came in, off its reading.
-/
import Derived.Test.Qxb6602938aCore
import Derived.ProofKit
import Derived.ShutString
import Derived.ChangeOld
import Derived.Deep.Slices
import Derived.Deep.Strs
namespace Go.Proofs.Qxb6602938a
open Go.ChangeShapes Go.WideShapes Go.ChangeAt Go.RowKit

theorem Try.cells31 : Try.prog.cellsOf 31 = 3 := by kernel_rfl
theorem Try.cells9 : Try.prog.cellsOf 9 = 1 := by kernel_rfl

section
variable {H : Type} {enc : TypeId × Value → H} {w : World} {base : Nat} {held : Bool}

/-- A slice of ZOption that came in: nil, or its structs lie at its address. -/
theorem open_opts {fuel : Nat} {a : Option Addr} {len cap : Nat} {x : DataW H × List MemPlace}
    (h : DataW.trod enc Try.prog w base (fun _ => true) held fuel 22 [.slice a len cap] = some x) :
    (a = none → len = 0 ∧ cap = 0) ∧ len ≤ maxLen ∧ ∃ L V I : Nat → ByteArray, At3 w a len L V I ∧ ∀ i, i < len → (L i).size ≤ maxLen ∧ (V i).size ≤ maxLen ∧ (I i).size ≤ maxLen := by
  rcases Deep.open_slice Try.underlying22 h with ⟨hcs, _⟩ | ⟨ad, len', cap', m, n, D, Pl, hcs, _, hl, hm, hmm, _, hx⟩
  · simp only [List.cons.injEq, Value.slice.injEq, and_true] at hcs
    obtain ⟨rfl, rfl, rfl⟩ := hcs
    exact ⟨fun _ => ⟨rfl, rfl⟩, by simp, fun _ => ⟨#[]⟩, fun _ => ⟨#[]⟩, fun _ => ⟨#[]⟩, .inl rfl, fun i hi => absurd hi (Nat.not_lt_zero _)⟩
  · simp only [List.cons.injEq, Value.slice.injEq, and_true] at hcs
    obtain ⟨rfl, rfl, rfl⟩ := hcs
    simp only [if_true] at hmm
    subst hmm
    refine ⟨by simp, by omega, ?_⟩
    have each : ∀ i, i < len → ∃ t : ByteArray × ByteArray × ByteArray, (w.cell? (ad.add (i * 3)) = some (.string t.1) ∧ w.cell? ((ad.add (i * 3)).add 1) = some (.string t.2.1) ∧ w.cell? ((ad.add (i * 3)).add 2) = some (.string t.2.2)) ∧
        t.1.size ≤ maxLen ∧ t.2.1.size ≤ maxLen ∧ t.2.2.size ≤ maxLen := by
      intro i hi
      obtain ⟨cs', h1, h2⟩ := hx i (by omega)
      rw [Try.cells31] at h1
      obtain ⟨_, hlen, hc⟩ := World.cells?_some h1
      obtain ⟨y0, y1, y2, n', _, _, f0, f1, f2⟩ := Deep.trod_struct3 Try.underlying31 h2
      match cs', hlen with
      | [c0, c1, c2], _ =>
        obtain ⟨s0, e0, _, z0⟩ := DataW.trod_string Try.underlying9 f0
        obtain ⟨s1, e1, _, z1⟩ := DataW.trod_string Try.underlying9 f1
        obtain ⟨s2, e2, _, z2⟩ := DataW.trod_string Try.underlying9 f2
        simp only [Try.cells9] at e0 e1 e2
        simp at e0 e1 e2
        subst e0; subst e1; subst e2
        refine ⟨(s0, s1, s2), ⟨?_, ?_, ?_⟩, z0, z1, z2⟩
        · simpa [Addr.add] using hc 0 (by omega)
        · simpa using hc 1 (by omega)
        · simpa using hc 2 (by omega)
    obtain ⟨T, hT⟩ := Deep.choose_lt each
    refine ⟨fun i => (T i).1, fun i => (T i).2.1, fun i => (T i).2.2, ?_, fun i hi => (hT i hi).2⟩
    by_cases hz : len = 0
    · exact .inl hz
    obtain ⟨b, off, spot⟩ := ad
    have hspot : spot = none := by simpa [Addr.add] using World.cell?_spot (hT 0 (by omega)).1.1
    subst hspot
    have hlt : b < w.heap.size := by
      have h0 := (hT 0 (by omega)).1.1
      rcases Nat.lt_or_ge b w.heap.size with h' | h'
      · exact h'
      · simp [World.cell?, Addr.add, Array.getElem?_eq_none h'] at h0
    refine .inr ⟨b, off, rfl, hlt, fun i hi => ?_⟩
    obtain ⟨h0, h1, h2⟩ := (hT i hi).1
    rw [add_plain] at h0 h1 h2
    rw [add_plain] at h1 h2
    exact ⟨h0, h1, h2⟩

end
end Go.Proofs.Qxb6602938a
