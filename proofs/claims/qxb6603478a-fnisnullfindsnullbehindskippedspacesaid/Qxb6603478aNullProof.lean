/-
  Seat b6603478a: 'Rows.FnIsNullFindsNullBehindSkippedSpaceSaid'.
-/
import Derived.Test.Qxb6603478aNull
import Derived.ProofKit
import Derived.OpenShut
import Derived.ShutString
import Derived.ChangeOld
import Derived.Below
namespace Go.Proofs.Qxb6603478a.fnIsNullFindsNullBehindSkippedSpace
open Go.ChangeShapes Go.WideShapes Go.ChangeAt Go.RowKit

theorem own : ownKnob Try.prog.godebug = none := by kernel_rfl
theorem laidOut : laidOutB Try.prog = true := by kernel_rfl

/-- What the walk is told of a slice of bytes that came in. -/
theorem open_bytes {H : Type} {enc : TypeId × Value → H} {w : World} {base : Nat} {held : Bool} {fuel : Nat} {a : Option Addr} {len cap : Nat} {x : DataW H × List MemPlace}
    (h : DataW.trod enc Try.prog w base (fun _ => true) held fuel 22 [.slice a len cap] = some x) :
    ∃ zs : List Int, zs.length = len ∧ (a = none → zs.length = 0 ∧ cap = 0) ∧ AtB w a zs ∧ ∀ z ∈ zs, (Lit.int .u8 z).wf = true := by
  rcases open_ints Try.underlying22 Try.underlying5 (by kernel_rfl) h with ⟨hcs, _⟩ | ⟨ad, l, c, zs, hcs, _, hl, hm, hz, _, hcell, hwz⟩
  · simp only [List.cons.injEq, Value.slice.injEq, and_true] at hcs
    obtain ⟨rfl, rfl, rfl⟩ := hcs
    exact ⟨[], rfl, fun _ => ⟨rfl, rfl⟩, .inl rfl, by simp⟩
  · simp only [List.cons.injEq, Value.slice.injEq, and_true] at hcs
    obtain ⟨rfl, rfl, rfl⟩ := hcs
    simp only [if_true] at hz
    have ht : (zs.take len).length = len := by simp; omega
    refine ⟨zs.take len, ht, by simp, ?_, fun z hz' => hwz z (List.mem_of_mem_take hz')⟩
    by_cases h0 : len = 0
    · exact .inl (by omega)
    obtain ⟨b, off, spot⟩ := ad
    have hspot : spot = none := by simpa [Addr.add] using World.cell?_spot (hcell 0 (by omega))
    subst hspot
    have hlt : b < w.heap.size := by
      have h1 := hcell 0 (by omega)
      rcases Nat.lt_or_ge b w.heap.size with h' | h'
      · exact h'
      · simp [World.cell?, Addr.add, Array.getElem?_eq_none h'] at h1
    refine .inr ⟨b, off, rfl, hlt, fun i hi => ?_⟩
    have h1 := hcell i (by omega)
    rw [add_plain] at h1
    rw [h1]
    simp [List.getD, show i < len by omega]

set_option maxRecDepth 100000 in
theorem lifted (os : Os) (started : os.Started) (H : Type) (enc : TypeId × Value → H) :
    ReturnsInHanded {} Try.checked os 5 .any (Rows.fnIsNullFindsNullBehindSkippedSpaceSpec.pre6 enc Try.prog Try.f5 Rows.fnIsNullFindsNullBehindSkippedSpaceRow.domain false) (Rows.fnIsNullFindsNullBehindSkippedSpaceSpec.post enc Try.prog Try.f5 false true false false) := by
  refine returnsInHanded_of_change (C := Try.checked) own started (by kernel_rfl) Try.func5
    (ChangeSpec.witness6 (enc := enc) (C := Try.checked) false ⟨#[], #[.slice none 0 0, .int .i64 0], []⟩ 8 (by kernel_rfl) (by kernel_rfl) (by kernel_rfl) (by kernel_rfl)) ?_
  intro W base args ds gs before hval0 hW _ _
  have hval : ∀ (j : Nat) t v, Try.f5.params[j]? = some t → args[j]? = some v → Value.okWide Try.prog W .any base t v := hval0
  have hW' := hW
  obtain ⟨p, q, hA0, hV, rfl, hfz, hnd⟩ := hW
  have hA : DataW.TrodAll enc Try.prog W 0 (fun _ => true) true Try.f5.params.toList args.toList ds p := hA0
  rw [Try.params5] at hA hval
  obtain ⟨v0, vs0, d0, ds0, p0, q0, hargs, rfl, rfl, h0, r0⟩ := trodAll_cons hA
  obtain ⟨v1, vs1, d1, ds1, p1, q1, rfl, rfl, rfl, h1, r1⟩ := trodAll_cons r0
  obtain ⟨rfl, rfl, rfl⟩ := trodAll_nil r1
  obtain rfl : args = #[v0, v1] := by cases args; simp_all
  obtain ⟨rfl, rfl⟩ := trodVars_none hV
  obtain ⟨a0, len0, cap0, rfl⟩ := okWide_slice Try.underlying22 (hval 0 22 v0 rfl rfl)
  have k0 := h0
  have lt0 : ∀ x ∈ p0, x.block < W.heap.size := by obtain ⟨m, hm⟩ := k0; exact DataW.trod_lt m _ _ _ hm
  obtain ⟨zs, rfl, hnil, hat, hwz⟩ : ∃ zs : List Int, zs.length = len0 ∧ (a0 = none → zs.length = 0 ∧ cap0 = 0) ∧ AtB W a0 zs ∧ ∀ z ∈ zs, (Lit.int .u8 z).wf = true := by
    obtain ⟨fuel, hf⟩ := h0
    exact open_bytes (by simpa [Value.cells] using hf)
  obtain ⟨a1, rfl, rfl, rfl, w1⟩ := open_int Try.underlying3 (hval 1 3 v1 rfl rfl) h1
  clear hA0 hval0
  refine (null_walk a0 zs cap0 hnil (bounds_of_wf hwz) a1 W hat).mono fun e W' ⟨he, bel⟩ => ?_
  subst he
  exact ⟨_, rfl, _, _, _, [], _, [], hW', trodAll_mk1 (shut_bool Try.underlying4 _), (trodAll_cons_mk (Below.trod laidOut (by kernel_rfl) (of_decide_eq_true (by kernel_rfl)) k0 bel lt0) (trodAll_cons_mk (shut_int Try.underlying3 w1) trodAll_mk0)), rfl, bel.frame _, fun h => by cases h⟩

theorem over : Rows.fnIsNullFindsNullBehindSkippedSpaceRow.holds Try.pinned (OpenSpec.ofChange Rows.fnIsNullFindsNullBehindSkippedSpaceSpec) :=
  OpenClaim.holds_of_wide 5 Try.f5 rfl rfl rfl rfl rfl rfl rfl ⟨rfl, rfl, rfl, rfl, rfl⟩ rfl rfl rfl rfl rfl (by kernel_rfl) Try.func5 (by kernel_rfl)
    (of_decide_eq_true (by kernel_rfl)) (by unfold Func.isWrapper; first | (rw [if_pos (by decide +kernel)]; kernel_rfl) | (rw [if_neg (by decide +kernel)]; exact ⟨rfl, rfl⟩))
    (fun os started H enc _ => lifted os started H enc)

theorem proved : Rows.FnIsNullFindsNullBehindSkippedSpaceSaid := over
end Go.Proofs.Qxb6603478a.fnIsNullFindsNullBehindSkippedSpace
