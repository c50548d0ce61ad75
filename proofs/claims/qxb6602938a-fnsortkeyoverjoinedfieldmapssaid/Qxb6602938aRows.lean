/-
  No cell of these rows narrows 'for every input' (looked for: loops, veiled, ifaces, maps, wideKeys, modest, calm, conditions, laid).
  DERIVED. THE GIVEN ROWS OF THIS SEAT. 5 by the template 'for every input the law returns true; each argument reads behind the call as it read before'; 0 by the template 'total and deterministic' (their statements: Qxb6602938aTotals.lean).
  GIVEN WITH THE SEED: the statements are not yours to turn. If you find one false, say at which input.
  Laid BY PROGRAM, IN A SANDBOX (cutbox-rows.mjs): the forced cells as the released guide's own fill.sh prints them over the translation 1e9ec0dfed685713… (all of the seat's roots in one cut). By AI agents, Wed Nov 11 2026. No macro, syntax, notation, axiom, sorry.
-/
import Derived.Test.Qxb6602938aChecked
import GoSem.Claim
import GoSem.ClaimJoined
import GoSem.ClaimMapViews
import Derived.JoinedTies
import Derived.KernelRfl
namespace Go.Proofs.Qxb6602938a
/- THE CELL 'sum', in the pinned program and in every row, IS THE sha256 OF THE DUMP (.gsa) THAT Qxb6602938aProg.lean LOADS. Nothing in Lean hashes anything: it is a label: what it is worth is what the hold of that sum in a sandbox is worth. -/
noncomputable def Try.pinned : Pinned := { name := "qxb6602938a", sum := "1e9ec0dfed6857135761f0743910ca3eb92836f0552b52feed487c47b314b0c5", checked := Try.checked }
namespace Rows
def none {H : Type} : Left H := { results := [], args := [] }

/-- 'zzlaws_data_b1.FnOffersSplitsAtAnyCut': WHATEVER THE INPUT: true; the input reads as it did. -/
def fnOffersSplitsAtAnyCutSpec : ChangeSpec := { name := "fnOffersSplitsAtAnyCut", fn := fun _ => fun
  | [d1, d2, d3] => { results := [.lit (.bool true)], args := [d1, d2, d3] }
  | _ => none }
def fnOffersSplitsAtAnyCutRow : OpenClaim := { program := "qxb6602938a", sum := "1e9ec0dfed6857135761f0743910ca3eb92836f0552b52feed487c47b314b0c5", func := "example.com/exposure/exposure/zzlaws_data_b1.FnOffersSplitsAtAnyCut", spec := "fnOffersSplitsAtAnyCut", apart := false }
def FnOffersSplitsAtAnyCutSaid : Prop := fnOffersSplitsAtAnyCutRow.holds Try.pinned (OpenSpec.ofChange fnOffersSplitsAtAnyCutSpec)

/-- ITS FALSE NEIGHBOUR: 'it returns false'. Refute it at one input. -/
def fnOffersSplitsAtAnyCutWrong : ChangeSpec := { name := "fnOffersSplitsAtAnyCut", fn := fun _ => fun
  | [d1, d2, d3] => { results := [.lit (.bool false)], args := [d1, d2, d3] }
  | _ => none }
def FnOffersSplitsAtAnyCutWrongFalsely : Prop := fnOffersSplitsAtAnyCutRow.holds Try.pinned (OpenSpec.ofChange fnOffersSplitsAtAnyCutWrong)

/-- 'zzlaws_data_b1.FnOffersIsOffersEachOfOne': WHATEVER THE INPUT: true; the input reads as it did. -/
def fnOffersIsOffersEachOfOneSpec : ChangeSpec := { name := "fnOffersIsOffersEachOfOne", fn := fun _ => fun
  | [d1, d2] => { results := [.lit (.bool true)], args := [d1, d2] }
  | _ => none }
def fnOffersIsOffersEachOfOneRow : OpenClaim := { program := "qxb6602938a", sum := "1e9ec0dfed6857135761f0743910ca3eb92836f0552b52feed487c47b314b0c5", func := "example.com/exposure/exposure/zzlaws_data_b1.FnOffersIsOffersEachOfOne", spec := "fnOffersIsOffersEachOfOne", apart := false }
def FnOffersIsOffersEachOfOneSaid : Prop := fnOffersIsOffersEachOfOneRow.holds Try.pinned (OpenSpec.ofChange fnOffersIsOffersEachOfOneSpec)

/-- ITS FALSE NEIGHBOUR: 'it returns false'. Refute it at one input. -/
def fnOffersIsOffersEachOfOneWrong : ChangeSpec := { name := "fnOffersIsOffersEachOfOne", fn := fun _ => fun
  | [d1, d2] => { results := [.lit (.bool false)], args := [d1, d2] }
  | _ => none }
def FnOffersIsOffersEachOfOneWrongFalsely : Prop := fnOffersIsOffersEachOfOneRow.holds Try.pinned (OpenSpec.ofChange fnOffersIsOffersEachOfOneWrong)

/-- 'zzlaws_data_b1.FnOffersEveryValueAndNoRemoved': WHATEVER THE INPUT: true; the input reads as it did. -/
def fnOffersEveryValueAndNoRemovedSpec : ChangeSpec := { name := "fnOffersEveryValueAndNoRemoved", fn := fun _ => fun
  | [d1, d2] => { results := [.lit (.bool true)], args := [d1, d2] }
  | _ => none }
def fnOffersEveryValueAndNoRemovedRow : OpenClaim := { program := "qxb6602938a", sum := "1e9ec0dfed6857135761f0743910ca3eb92836f0552b52feed487c47b314b0c5", func := "example.com/exposure/exposure/zzlaws_data_b1.FnOffersEveryValueAndNoRemoved", spec := "fnOffersEveryValueAndNoRemoved", apart := false }
def FnOffersEveryValueAndNoRemovedSaid : Prop := fnOffersEveryValueAndNoRemovedRow.holds Try.pinned (OpenSpec.ofChange fnOffersEveryValueAndNoRemovedSpec)

/-- ITS FALSE NEIGHBOUR: 'it returns false'. Refute it at one input. -/
def fnOffersEveryValueAndNoRemovedWrong : ChangeSpec := { name := "fnOffersEveryValueAndNoRemoved", fn := fun _ => fun
  | [d1, d2] => { results := [.lit (.bool false)], args := [d1, d2] }
  | _ => none }
def FnOffersEveryValueAndNoRemovedWrongFalsely : Prop := fnOffersEveryValueAndNoRemovedRow.holds Try.pinned (OpenSpec.ofChange fnOffersEveryValueAndNoRemovedWrong)

/-- 'zzlaws_data_b1.FnOffersEachIsDistinctAndOffered': WHATEVER THE INPUT: true; the input reads as it did. -/
def fnOffersEachIsDistinctAndOfferedSpec : ChangeSpec := { name := "fnOffersEachIsDistinctAndOffered", fn := fun _ => fun
  | [d1, d2] => { results := [.lit (.bool true)], args := [d1, d2] }
  | _ => none }
def fnOffersEachIsDistinctAndOfferedRow : OpenClaim := { program := "qxb6602938a", sum := "1e9ec0dfed6857135761f0743910ca3eb92836f0552b52feed487c47b314b0c5", func := "example.com/exposure/exposure/zzlaws_data_b1.FnOffersEachIsDistinctAndOffered", spec := "fnOffersEachIsDistinctAndOffered", apart := false }
def FnOffersEachIsDistinctAndOfferedSaid : Prop := fnOffersEachIsDistinctAndOfferedRow.holds Try.pinned (OpenSpec.ofChange fnOffersEachIsDistinctAndOfferedSpec)

/-- ITS FALSE NEIGHBOUR: 'it returns false'. Refute it at one input. -/
def fnOffersEachIsDistinctAndOfferedWrong : ChangeSpec := { name := "fnOffersEachIsDistinctAndOffered", fn := fun _ => fun
  | [d1, d2] => { results := [.lit (.bool false)], args := [d1, d2] }
  | _ => none }
def FnOffersEachIsDistinctAndOfferedWrongFalsely : Prop := fnOffersEachIsDistinctAndOfferedRow.holds Try.pinned (OpenSpec.ofChange fnOffersEachIsDistinctAndOfferedWrong)

/-- 'zzlaws_data_b1.FnSortKeyOverJoinedFieldMaps': WHATEVER THE INPUT: true; the input reads as it did. -/
def fnSortKeyOverJoinedFieldMapsSpec : ChangeSpec := { name := "fnSortKeyOverJoinedFieldMaps", fn := fun _ => fun
  | [d1, d2, d3, d4, d5, d6] => { results := [.lit (.bool true)], args := [d1, d2, d3, d4, d5, d6] }
  | _ => none }
def fnSortKeyOverJoinedFieldMapsRow : OpenClaim := { program := "qxb6602938a", sum := "1e9ec0dfed6857135761f0743910ca3eb92836f0552b52feed487c47b314b0c5", func := "example.com/exposure/exposure/zzlaws_data_b1.FnSortKeyOverJoinedFieldMaps", spec := "fnSortKeyOverJoinedFieldMaps", apart := false }
def FnSortKeyOverJoinedFieldMapsSaid : Prop := fnSortKeyOverJoinedFieldMapsRow.holds Try.pinned (OpenSpec.ofChange fnSortKeyOverJoinedFieldMapsSpec)

/-- ITS FALSE NEIGHBOUR: 'it returns false'. Refute it at one input. -/
def fnSortKeyOverJoinedFieldMapsWrong : ChangeSpec := { name := "fnSortKeyOverJoinedFieldMaps", fn := fun _ => fun
  | [d1, d2, d3, d4, d5, d6] => { results := [.lit (.bool false)], args := [d1, d2, d3, d4, d5, d6] }
  | _ => none }
def FnSortKeyOverJoinedFieldMapsWrongFalsely : Prop := fnSortKeyOverJoinedFieldMapsRow.holds Try.pinned (OpenSpec.ofChange fnSortKeyOverJoinedFieldMapsWrong)

end Rows
end Go.Proofs.Qxb6602938a
