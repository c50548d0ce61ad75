/-
  No cell of these rows narrows 'for every input' (looked for: loops, veiled, ifaces, maps, wideKeys, modest, calm, conditions, laid).
  DERIVED. THE GIVEN ROWS OF THIS SEAT. 3 by the template 'for every input the law returns true; each argument reads behind the call as it read before'; 0 by the template 'total and deterministic' (their statements: Qxb6603478aTotals.lean).
  GIVEN WITH THE SEED: the statements are not yours to turn. If you find one false, say at which input.
  Laid BY PROGRAM, IN A SANDBOX (cutbox-rows.mjs): the forced cells as the released guide's own fill.sh prints them over the translation a931c3332f1df073… (all of the seat's roots in one cut). By AI agents, Wed Nov 11 2026. No macro, syntax, notation, axiom, sorry.
-/
import Derived.Test.Qxb6603478aChecked
import GoSem.Claim
import GoSem.ClaimJoined
import GoSem.ClaimMapViews
import Derived.JoinedTies
import Derived.KernelRfl
namespace Go.Proofs.Qxb6603478a
/- THE CELL 'sum', in the pinned program and in every row, IS THE sha256 OF THE DUMP (.gsa) THAT Qxb6603478aProg.lean LOADS. Nothing in Lean hashes anything: it is a label: what it is worth is what the hold of that sum in a sandbox is worth. -/
noncomputable def Try.pinned : Pinned := { name := "qxb6603478a", sum := "a931c3332f1df0738f2e4eab331cf4e7d7799de68d9540d3ecb49093f41fd08b", checked := Try.checked }
namespace Rows
def none {H : Type} : Left H := { results := [], args := [] }

/-- 'zzlaws_internal_history_b1.FnSkipSpaceStopsAtFirstNonSpace': WHATEVER THE INPUT: true; the input reads as it did. -/
def fnSkipSpaceStopsAtFirstNonSpaceSpec : ChangeSpec := { name := "fnSkipSpaceStopsAtFirstNonSpace", fn := fun _ => fun
  | [d1, d2] => { results := [.lit (.bool true)], args := [d1, d2] }
  | _ => none }
def fnSkipSpaceStopsAtFirstNonSpaceRow : OpenClaim := { program := "qxb6603478a", sum := "a931c3332f1df0738f2e4eab331cf4e7d7799de68d9540d3ecb49093f41fd08b", func := "example.com/capsize/capsize/zzlaws_internal_history_b1.FnSkipSpaceStopsAtFirstNonSpace", spec := "fnSkipSpaceStopsAtFirstNonSpace", apart := false }
def FnSkipSpaceStopsAtFirstNonSpaceSaid : Prop := fnSkipSpaceStopsAtFirstNonSpaceRow.holds Try.pinned (OpenSpec.ofChange fnSkipSpaceStopsAtFirstNonSpaceSpec)

/-- ITS FALSE NEIGHBOUR: 'it returns false'. Refute it at one input. -/
def fnSkipSpaceStopsAtFirstNonSpaceWrong : ChangeSpec := { name := "fnSkipSpaceStopsAtFirstNonSpace", fn := fun _ => fun
  | [d1, d2] => { results := [.lit (.bool false)], args := [d1, d2] }
  | _ => none }
def FnSkipSpaceStopsAtFirstNonSpaceWrongFalsely : Prop := fnSkipSpaceStopsAtFirstNonSpaceRow.holds Try.pinned (OpenSpec.ofChange fnSkipSpaceStopsAtFirstNonSpaceWrong)

/-- 'zzlaws_internal_history_b1.FnSkipSpaceShiftsByPadding': WHATEVER THE INPUT: true; the input reads as it did. -/
def fnSkipSpaceShiftsByPaddingSpec : ChangeSpec := { name := "fnSkipSpaceShiftsByPadding", fn := fun _ => fun
  | [d1, d2] => { results := [.lit (.bool true)], args := [d1, d2] }
  | _ => none }
def fnSkipSpaceShiftsByPaddingRow : OpenClaim := { program := "qxb6603478a", sum := "a931c3332f1df0738f2e4eab331cf4e7d7799de68d9540d3ecb49093f41fd08b", func := "example.com/capsize/capsize/zzlaws_internal_history_b1.FnSkipSpaceShiftsByPadding", spec := "fnSkipSpaceShiftsByPadding", apart := false }
def FnSkipSpaceShiftsByPaddingSaid : Prop := fnSkipSpaceShiftsByPaddingRow.holds Try.pinned (OpenSpec.ofChange fnSkipSpaceShiftsByPaddingSpec)

/-- ITS FALSE NEIGHBOUR: 'it returns false'. Refute it at one input. -/
def fnSkipSpaceShiftsByPaddingWrong : ChangeSpec := { name := "fnSkipSpaceShiftsByPadding", fn := fun _ => fun
  | [d1, d2] => { results := [.lit (.bool false)], args := [d1, d2] }
  | _ => none }
def FnSkipSpaceShiftsByPaddingWrongFalsely : Prop := fnSkipSpaceShiftsByPaddingRow.holds Try.pinned (OpenSpec.ofChange fnSkipSpaceShiftsByPaddingWrong)

/-- 'zzlaws_internal_history_b1.FnIsNullFindsNullBehindSkippedSpace': WHATEVER THE INPUT: true; the input reads as it did. -/
def fnIsNullFindsNullBehindSkippedSpaceSpec : ChangeSpec := { name := "fnIsNullFindsNullBehindSkippedSpace", fn := fun _ => fun
  | [d1, d2] => { results := [.lit (.bool true)], args := [d1, d2] }
  | _ => none }
def fnIsNullFindsNullBehindSkippedSpaceRow : OpenClaim := { program := "qxb6603478a", sum := "a931c3332f1df0738f2e4eab331cf4e7d7799de68d9540d3ecb49093f41fd08b", func := "example.com/capsize/capsize/zzlaws_internal_history_b1.FnIsNullFindsNullBehindSkippedSpace", spec := "fnIsNullFindsNullBehindSkippedSpace", apart := false }
def FnIsNullFindsNullBehindSkippedSpaceSaid : Prop := fnIsNullFindsNullBehindSkippedSpaceRow.holds Try.pinned (OpenSpec.ofChange fnIsNullFindsNullBehindSkippedSpaceSpec)

/-- ITS FALSE NEIGHBOUR: 'it returns false'. Refute it at one input. -/
def fnIsNullFindsNullBehindSkippedSpaceWrong : ChangeSpec := { name := "fnIsNullFindsNullBehindSkippedSpace", fn := fun _ => fun
  | [d1, d2] => { results := [.lit (.bool false)], args := [d1, d2] }
  | _ => none }
def FnIsNullFindsNullBehindSkippedSpaceWrongFalsely : Prop := fnIsNullFindsNullBehindSkippedSpaceRow.holds Try.pinned (OpenSpec.ofChange fnIsNullFindsNullBehindSkippedSpaceWrong)

end Rows
end Go.Proofs.Qxb6603478a
