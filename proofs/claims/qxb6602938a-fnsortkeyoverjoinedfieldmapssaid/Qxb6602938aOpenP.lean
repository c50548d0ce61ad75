/-
  Seat b6602938a: what the walk is told of a slice of ZPair that came in.
-/
import Derived.Test.Qxb6602938aPairs
import Derived.ProofKit
import Derived.ShutString
import Derived.ChangeOld
import Derived.Deep.Slices
import Derived.Deep.Strs
namespace Go.Proofs.Qxb6602938a
open Go.ChangeShapes Go.WideShapes Go.ChangeAt Go.RowKit

theorem Try.cells60 : Try.prog.cellsOf 60 = 4 := by kernel_rfl
theorem Try.cellsOf9 : Try.prog.cellsOf 9 = 1 := by kernel_rfl
theorem Try.cellsOf3 : Try.prog.cellsOf 3 = 1 := by kernel_rfl

theorem trod_struct4 {H : Type} {enc : TypeId × Value → H} {P : Program} {w : World} {base : Nat} {spare : Nat → Bool} {held : Bool} {t : TypeId} {f0 f1 f2 f3 : Field} {fuel : Nat} {cs : List Value} {x : DataW H × List MemPlace}
    (ht : P.underlying t = some (.struct #[f0, f1, f2, f3])) (h : DataW.trod enc P w base spare held fuel t cs = some x) :
    ∃ y0 y1 y2 y3 n, DataW.trod enc P w base spare held n f0.type ((cs.drop f0.offset).take (P.cellsOf f0.type)) = some y0 ∧ DataW.trod enc P w base spare held n f1.type ((cs.drop f1.offset).take (P.cellsOf f1.type)) = some y1 ∧
      DataW.trod enc P w base spare held n f2.type ((cs.drop f2.offset).take (P.cellsOf f2.type)) = some y2 ∧ DataW.trod enc P w base spare held n f3.type ((cs.drop f3.offset).take (P.cellsOf f3.type)) = some y3 := by
  obtain ⟨xs, n, _, rfl, hl, hlen, hf⟩ := DataW.trod_struct ht h
  match xs, hlen with
  | [y0, y1, y2, y3], _ => exact ⟨y0, y1, y2, y3, n, by simpa using hf 0 f0 rfl, by simpa using hf 1 f1 rfl, by simpa using hf 2 f2 rfl, by simpa using hf 3 f3 rfl⟩

theorem open_pairs {H : Type} {enc : TypeId × Value → H} {w : World} {base : Nat} {held : Bool} {fuel : Nat} {a : Option Addr} {len cap : Nat} {x : DataW H × List MemPlace}
    (h : DataW.trod enc Try.prog w base (fun _ => true) held fuel 40 [.slice a len cap] = some x) :
    (a = none → len = 0 ∧ cap = 0) ∧ len ≤ maxLen ∧ ∃ P : Prs, At4 w a len P ∧ ∀ i, i < len → (P.k i).size ≤ maxLen ∧ (P.v i).size ≤ maxLen := by
  rcases Deep.open_slice Try.underlying40 h with ⟨hcs, _⟩ | ⟨ad, len', cap', m, n, D, Pl, hcs, _, hl, hm, hmm, _, hx⟩
  · simp only [List.cons.injEq, Value.slice.injEq, and_true] at hcs
    obtain ⟨rfl, rfl, rfl⟩ := hcs
    exact ⟨fun _ => ⟨rfl, rfl⟩, by simp, ⟨fun _ => ⟨#[]⟩, fun _ => 0, fun _ => ⟨#[]⟩, fun _ => 0⟩, .inl rfl, fun i hi => absurd hi (Nat.not_lt_zero _)⟩
  · simp only [List.cons.injEq, Value.slice.injEq, and_true] at hcs
    obtain ⟨rfl, rfl, rfl⟩ := hcs
    simp only [if_true] at hmm
    subst hmm
    refine ⟨by simp, by omega, ?_⟩
    have each : ∀ i, i < len → ∃ t : (ByteArray × Int) × ByteArray × Int, (w.cell? (ad.add (i * 4)) = some (.string t.1.1) ∧ w.cell? ((ad.add (i * 4)).add 1) = some (.int .i64 t.1.2) ∧ w.cell? ((ad.add (i * 4)).add 2) = some (.string t.2.1) ∧ w.cell? ((ad.add (i * 4)).add 3) = some (.int .i64 t.2.2)) ∧
        t.1.1.size ≤ maxLen ∧ t.2.1.size ≤ maxLen := by
      intro i hi
      obtain ⟨cs', h1, h2⟩ := hx i (by omega)
      rw [Try.cells60] at h1
      obtain ⟨_, hlen, hc⟩ := World.cells?_some h1
      obtain ⟨y0, y1, y2, y3, n', f0, f1, f2, f3⟩ := trod_struct4 Try.underlying60 h2
      match cs', hlen with
      | [c0, c1, c2, c3], _ =>
        obtain ⟨s0, e0, _, z0⟩ := DataW.trod_string Try.underlying9 f0
        obtain ⟨s1, e1, _, z1⟩ := DataW.trod_int Try.underlying3 f1
        obtain ⟨s2, e2, _, z2⟩ := DataW.trod_string Try.underlying9 f2
        obtain ⟨s3, e3, _, z3⟩ := DataW.trod_int Try.underlying3 f3
        simp only [Try.cellsOf9, Try.cellsOf3] at e0 e1 e2 e3
        simp at e0 e1 e2 e3
        subst e0; subst e1; subst e2; subst e3
        refine ⟨((s0, s1), s2, s3), ⟨?_, ?_, ?_, ?_⟩, z0, z2⟩
        · simpa [Addr.add] using hc 0 (by omega)
        · simpa using hc 1 (by omega)
        · simpa using hc 2 (by omega)
        · simpa using hc 3 (by omega)
    obtain ⟨T, hT⟩ := Deep.choose_lt each
    refine ⟨⟨fun i => (T i).1.1, fun i => (T i).1.2, fun i => (T i).2.1, fun i => (T i).2.2⟩, ?_, fun i hi => (hT i hi).2⟩
    by_cases hz : len = 0
    · exact .inl hz
    obtain ⟨b, off, spot⟩ := ad
    have hspot : spot = none := by simpa [Addr.add] using World.cell?_spot (hT 0 (by omega)).1.1
    subst hspot
    have hlt : b < w.heap.size := by
      have h0 := (hT 0 (by omega)).1.1
      rcases Nat.lt_or_ge b w.heap.size with h' | h'
      · exact h'
      · simp [World.cell?, Addr.add, Array.getElem?_eq_none h'] at h0
    refine .inr ⟨b, off, rfl, hlt, fun i hi => ?_⟩
    obtain ⟨h0, h1, h2, h3⟩ := (hT i hi).1
    rw [add_plain] at h0 h1 h2 h3
    rw [add_plain] at h1 h2 h3
    exact ⟨h0, h1, h2, h3⟩

end Go.Proofs.Qxb6602938a
