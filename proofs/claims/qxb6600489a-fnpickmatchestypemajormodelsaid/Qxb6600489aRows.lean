/-
  No cell of these rows narrows 'for every input' (looked for: loops, veiled, ifaces, maps, wideKeys, modest, calm, conditions, laid).
  DERIVED. THE GIVEN ROWS OF THIS SEAT. 3 by the template 'for every input the law returns true; each argument reads behind the call as it read before'; 0 by the template 'total and deterministic' (their statements: Qxb6600489aTotals.lean).
  GIVEN WITH THE SEED: the statements are not yours to turn. If you find one false, say at which input.
  Laid BY PROGRAM, IN A SANDBOX (cutbox-rows.mjs): the forced cells as the released guide's own fill.sh prints them over the translation 80e7565f33960398… (all of the seat's roots in one cut). By AI agents, Wed Nov 11 2026. No macro, syntax, notation, axiom, sorry.
-/
import Derived.Test.Qxb6600489aChecked
import GoSem.Claim
import GoSem.ClaimJoined
import GoSem.ClaimMapViews
import Derived.JoinedTies
import Derived.KernelRfl
namespace Go.Proofs.Qxb6600489a
/- THE CELL 'sum', in the pinned program and in every row, IS THE sha256 OF THE DUMP (.gsa) THAT Qxb6600489aProg.lean LOADS. Nothing in Lean hashes anything: it is a label: what it is worth is what the hold of that sum in a sandbox is worth. -/
noncomputable def Try.pinned : Pinned := { name := "qxb6600489a", sum := "80e7565f33960398a2c774df41073fb6a5c463ed4c10078272f9ae10179aacca", checked := Try.checked }
namespace Rows
def none {H : Type} : Left H := { results := [], args := [] }

/-- 'zzlaws_pkg_ike_b1.FnPickMatchesTypeMajorModel': WHATEVER THE INPUT: true; the input reads as it did. -/
def fnPickMatchesTypeMajorModelSpec : ChangeSpec := { name := "fnPickMatchesTypeMajorModel", fn := fun _ => fun
  | [d1, d2, d3] => { results := [.lit (.bool true)], args := [d1, d2, d3] }
  | _ => none }
def fnPickMatchesTypeMajorModelRow : OpenClaim := { program := "qxb6600489a", sum := "80e7565f33960398a2c774df41073fb6a5c463ed4c10078272f9ae10179aacca", func := "example.com/roamwire/roamwire/zzlaws_pkg_ike_b1.FnPickMatchesTypeMajorModel", spec := "fnPickMatchesTypeMajorModel", apart := false }
def FnPickMatchesTypeMajorModelSaid : Prop := fnPickMatchesTypeMajorModelRow.holds Try.pinned (OpenSpec.ofChange fnPickMatchesTypeMajorModelSpec)

/-- ITS FALSE NEIGHBOUR: 'it returns false'. Refute it at one input. -/
def fnPickMatchesTypeMajorModelWrong : ChangeSpec := { name := "fnPickMatchesTypeMajorModel", fn := fun _ => fun
  | [d1, d2, d3] => { results := [.lit (.bool false)], args := [d1, d2, d3] }
  | _ => none }
def FnPickMatchesTypeMajorModelWrongFalsely : Prop := fnPickMatchesTypeMajorModelRow.holds Try.pinned (OpenSpec.ofChange fnPickMatchesTypeMajorModelWrong)

/-- 'zzlaws_pkg_ike_b1.FnPickAcceptsItsOwnChoice': WHATEVER THE INPUT: true; the input reads as it did. -/
def fnPickAcceptsItsOwnChoiceSpec : ChangeSpec := { name := "fnPickAcceptsItsOwnChoice", fn := fun _ => fun
  | [d1, d2, d3] => { results := [.lit (.bool true)], args := [d1, d2, d3] }
  | _ => none }
def fnPickAcceptsItsOwnChoiceRow : OpenClaim := { program := "qxb6600489a", sum := "80e7565f33960398a2c774df41073fb6a5c463ed4c10078272f9ae10179aacca", func := "example.com/roamwire/roamwire/zzlaws_pkg_ike_b1.FnPickAcceptsItsOwnChoice", spec := "fnPickAcceptsItsOwnChoice", apart := false }
def FnPickAcceptsItsOwnChoiceSaid : Prop := fnPickAcceptsItsOwnChoiceRow.holds Try.pinned (OpenSpec.ofChange fnPickAcceptsItsOwnChoiceSpec)

/-- ITS FALSE NEIGHBOUR: 'it returns false'. Refute it at one input. -/
def fnPickAcceptsItsOwnChoiceWrong : ChangeSpec := { name := "fnPickAcceptsItsOwnChoice", fn := fun _ => fun
  | [d1, d2, d3] => { results := [.lit (.bool false)], args := [d1, d2, d3] }
  | _ => none }
def FnPickAcceptsItsOwnChoiceWrongFalsely : Prop := fnPickAcceptsItsOwnChoiceRow.holds Try.pinned (OpenSpec.ofChange fnPickAcceptsItsOwnChoiceWrong)

/-- 'zzlaws_pkg_ike_b1.FnPickMoreOfferedStillAgrees': WHATEVER THE INPUT: true; the input reads as it did. -/
def fnPickMoreOfferedStillAgreesSpec : ChangeSpec := { name := "fnPickMoreOfferedStillAgrees", fn := fun _ => fun
  | [d1, d2, d3, d4] => { results := [.lit (.bool true)], args := [d1, d2, d3, d4] }
  | _ => none }
def fnPickMoreOfferedStillAgreesRow : OpenClaim := { program := "qxb6600489a", sum := "80e7565f33960398a2c774df41073fb6a5c463ed4c10078272f9ae10179aacca", func := "example.com/roamwire/roamwire/zzlaws_pkg_ike_b1.FnPickMoreOfferedStillAgrees", spec := "fnPickMoreOfferedStillAgrees", apart := false }
def FnPickMoreOfferedStillAgreesSaid : Prop := fnPickMoreOfferedStillAgreesRow.holds Try.pinned (OpenSpec.ofChange fnPickMoreOfferedStillAgreesSpec)

/-- ITS FALSE NEIGHBOUR: 'it returns false'. Refute it at one input. -/
def fnPickMoreOfferedStillAgreesWrong : ChangeSpec := { name := "fnPickMoreOfferedStillAgrees", fn := fun _ => fun
  | [d1, d2, d3, d4] => { results := [.lit (.bool false)], args := [d1, d2, d3, d4] }
  | _ => none }
def FnPickMoreOfferedStillAgreesWrongFalsely : Prop := fnPickMoreOfferedStillAgreesRow.holds Try.pinned (OpenSpec.ofChange fnPickMoreOfferedStillAgreesWrong)

end Rows
end Go.Proofs.Qxb6600489a
