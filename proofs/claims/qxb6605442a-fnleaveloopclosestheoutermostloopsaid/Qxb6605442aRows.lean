/-
  No cell of these rows narrows 'for every input' (looked for: loops, veiled, ifaces, maps, wideKeys, modest, calm, conditions, laid).
  DERIVED. THE GIVEN ROWS OF THIS SEAT. 3 by the template 'for every input the law returns true; each argument reads behind the call as it read before'; 0 by the template 'total and deterministic' (their statements: Qxb6605442aTotals.lean).
  GIVEN WITH THE SEED: the statements are not yours to turn. If you find one false, say at which input.
  Laid BY PROGRAM, IN A SANDBOX (cutbox-rows.mjs): the forced cells as the released guide's own fill.sh prints them over the translation 4fb2bdd29ff66580… (all of the seat's roots in one cut). By AI agents, Wed Nov 11 2026. No macro, syntax, notation, axiom, sorry.
-/
import Derived.Test.Qxb6605442aChecked
import GoSem.Claim
import GoSem.ClaimJoined
import GoSem.ClaimMapViews
import Derived.JoinedTies
import Derived.KernelRfl
namespace Go.Proofs.Qxb6605442a
/- THE CELL 'sum', in the pinned program and in every row, IS THE sha256 OF THE DUMP (.gsa) THAT Qxb6605442aProg.lean LOADS. Nothing in Lean hashes anything: it is a label: what it is worth is what the hold of that sum in a sandbox is worth. -/
noncomputable def Try.pinned : Pinned := { name := "qxb6605442a", sum := "4fb2bdd29ff66580867fdc222732b536c2a6d4018c92f4da2a9829d51ae10009", checked := Try.checked }
namespace Rows
def none {H : Type} : Left H := { results := [], args := [] }

/-- 'zzlaws_internal_wasmbin_b1.FnAppendZeroAppendsOneZeroConstOfItsType': WHATEVER THE INPUT: true; the input reads as it did. -/
def fnAppendZeroAppendsOneZeroConstOfItsTypeSpec : ChangeSpec := { name := "fnAppendZeroAppendsOneZeroConstOfItsType", fn := fun _ => fun
  | [d1, d2] => { results := [.lit (.bool true)], args := [d1, d2] }
  | _ => none }
def fnAppendZeroAppendsOneZeroConstOfItsTypeRow : OpenClaim := { program := "qxb6605442a", sum := "4fb2bdd29ff66580867fdc222732b536c2a6d4018c92f4da2a9829d51ae10009", func := "example.com/gatepost/gatepost/zzlaws_internal_wasmbin_b1.FnAppendZeroAppendsOneZeroConstOfItsType", spec := "fnAppendZeroAppendsOneZeroConstOfItsType", apart := false }
def FnAppendZeroAppendsOneZeroConstOfItsTypeSaid : Prop := fnAppendZeroAppendsOneZeroConstOfItsTypeRow.holds Try.pinned (OpenSpec.ofChange fnAppendZeroAppendsOneZeroConstOfItsTypeSpec)

/-- ITS FALSE NEIGHBOUR: 'it returns false'. Refute it at one input. -/
def fnAppendZeroAppendsOneZeroConstOfItsTypeWrong : ChangeSpec := { name := "fnAppendZeroAppendsOneZeroConstOfItsType", fn := fun _ => fun
  | [d1, d2] => { results := [.lit (.bool false)], args := [d1, d2] }
  | _ => none }
def FnAppendZeroAppendsOneZeroConstOfItsTypeWrongFalsely : Prop := fnAppendZeroAppendsOneZeroConstOfItsTypeRow.holds Try.pinned (OpenSpec.ofChange fnAppendZeroAppendsOneZeroConstOfItsTypeWrong)

/-- 'zzlaws_internal_wasmbin_b1.FnAppendZeroScriptReadsBackInOrder': WHATEVER THE INPUT: true; the input reads as it did. -/
def fnAppendZeroScriptReadsBackInOrderSpec : ChangeSpec := { name := "fnAppendZeroScriptReadsBackInOrder", fn := fun _ => fun
  | [d1, d2] => { results := [.lit (.bool true)], args := [d1, d2] }
  | _ => none }
def fnAppendZeroScriptReadsBackInOrderRow : OpenClaim := { program := "qxb6605442a", sum := "4fb2bdd29ff66580867fdc222732b536c2a6d4018c92f4da2a9829d51ae10009", func := "example.com/gatepost/gatepost/zzlaws_internal_wasmbin_b1.FnAppendZeroScriptReadsBackInOrder", spec := "fnAppendZeroScriptReadsBackInOrder", apart := false }
def FnAppendZeroScriptReadsBackInOrderSaid : Prop := fnAppendZeroScriptReadsBackInOrderRow.holds Try.pinned (OpenSpec.ofChange fnAppendZeroScriptReadsBackInOrderSpec)

/-- ITS FALSE NEIGHBOUR: 'it returns false'. Refute it at one input. -/
def fnAppendZeroScriptReadsBackInOrderWrong : ChangeSpec := { name := "fnAppendZeroScriptReadsBackInOrder", fn := fun _ => fun
  | [d1, d2] => { results := [.lit (.bool false)], args := [d1, d2] }
  | _ => none }
def FnAppendZeroScriptReadsBackInOrderWrongFalsely : Prop := fnAppendZeroScriptReadsBackInOrderRow.holds Try.pinned (OpenSpec.ofChange fnAppendZeroScriptReadsBackInOrderWrong)

/-- 'zzlaws_internal_wasmbin_b1.FnLeaveLoopClosesTheOutermostLoop': WHATEVER THE INPUT: true; the input reads as it did. -/
def fnLeaveLoopClosesTheOutermostLoopSpec : ChangeSpec := { name := "fnLeaveLoopClosesTheOutermostLoop", fn := fun _ => fun
  | [d1, d2, d3, d4, d5, d6, d7, d8] => { results := [.lit (.bool true)], args := [d1, d2, d3, d4, d5, d6, d7, d8] }
  | _ => none }
def fnLeaveLoopClosesTheOutermostLoopRow : OpenClaim := { program := "qxb6605442a", sum := "4fb2bdd29ff66580867fdc222732b536c2a6d4018c92f4da2a9829d51ae10009", func := "example.com/gatepost/gatepost/zzlaws_internal_wasmbin_b1.FnLeaveLoopClosesTheOutermostLoop", spec := "fnLeaveLoopClosesTheOutermostLoop", apart := false }
def FnLeaveLoopClosesTheOutermostLoopSaid : Prop := fnLeaveLoopClosesTheOutermostLoopRow.holds Try.pinned (OpenSpec.ofChange fnLeaveLoopClosesTheOutermostLoopSpec)

/-- ITS FALSE NEIGHBOUR: 'it returns false'. Refute it at one input. -/
def fnLeaveLoopClosesTheOutermostLoopWrong : ChangeSpec := { name := "fnLeaveLoopClosesTheOutermostLoop", fn := fun _ => fun
  | [d1, d2, d3, d4, d5, d6, d7, d8] => { results := [.lit (.bool false)], args := [d1, d2, d3, d4, d5, d6, d7, d8] }
  | _ => none }
def FnLeaveLoopClosesTheOutermostLoopWrongFalsely : Prop := fnLeaveLoopClosesTheOutermostLoopRow.holds Try.pinned (OpenSpec.ofChange fnLeaveLoopClosesTheOutermostLoopWrong)

end Rows
end Go.Proofs.Qxb6605442a
