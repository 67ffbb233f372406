/-
  No cell of these rows narrows 'for every input' (looked for: loops, veiled, ifaces, maps, wideKeys, modest, calm, conditions, laid).
  DERIVED. THE GIVEN ROWS OF THIS SEAT. 4 by the template 'for every input the law returns true; each argument reads behind the call as it read before'; 0 by the template 'total and deterministic' (their statements: Qxb6605402aTotals.lean).
  GIVEN WITH THE SEED: the statements are not yours to turn. If you find one false, say at which input.
  Laid BY PROGRAM, IN A SANDBOX (cutbox-rows.mjs): the forced cells as the released guide's own fill.sh prints them over the translation 4a3c79e86cda3685… (all of the seat's roots in one cut). By AI agents, Wed Nov 11 2026. No macro, syntax, notation, axiom, sorry.
-/
import Derived.Test.Qxb6605402aChecked
import GoSem.Claim
import GoSem.ClaimJoined
import GoSem.ClaimMapViews
import Derived.JoinedTies
import Derived.KernelRfl
namespace Go.Proofs.Qxb6605402a
/- THE CELL 'sum', in the pinned program and in every row, IS THE sha256 OF THE DUMP (.gsa) THAT Qxb6605402aProg.lean LOADS. Nothing in Lean hashes anything: it is a label: what it is worth is what the hold of that sum in a sandbox is worth. -/
noncomputable def Try.pinned : Pinned := { name := "qxb6605402a", sum := "4a3c79e86cda3685f53b6deafac4e3218b4178f600548183e3a399e2e636d3e4", checked := Try.checked }
namespace Rows
def none {H : Type} : Left H := { results := [], args := [] }

/-- 'zzlaws_root_b1.FnTellReportsExactlyTheUntoldLocalLocks': WHATEVER THE INPUT: true; the input reads as it did. -/
def fnTellReportsExactlyTheUntoldLocalLocksSpec : ChangeSpec := { name := "fnTellReportsExactlyTheUntoldLocalLocks", fn := fun _ => fun
  | [d1, d2, d3, d4] => { results := [.lit (.bool true)], args := [d1, d2, d3, d4] }
  | _ => none }
def fnTellReportsExactlyTheUntoldLocalLocksRow : OpenClaim := { program := "qxb6605402a", sum := "4a3c79e86cda3685f53b6deafac4e3218b4178f600548183e3a399e2e636d3e4", func := "example.com/latchkey/latchkey/zzlaws_root_b1.FnTellReportsExactlyTheUntoldLocalLocks", spec := "fnTellReportsExactlyTheUntoldLocalLocks", apart := false }
def FnTellReportsExactlyTheUntoldLocalLocksSaid : Prop := fnTellReportsExactlyTheUntoldLocalLocksRow.holds Try.pinned (OpenSpec.ofChange fnTellReportsExactlyTheUntoldLocalLocksSpec)

/-- ITS FALSE NEIGHBOUR: 'it returns false'. Refute it at one input. -/
def fnTellReportsExactlyTheUntoldLocalLocksWrong : ChangeSpec := { name := "fnTellReportsExactlyTheUntoldLocalLocks", fn := fun _ => fun
  | [d1, d2, d3, d4] => { results := [.lit (.bool false)], args := [d1, d2, d3, d4] }
  | _ => none }
def FnTellReportsExactlyTheUntoldLocalLocksWrongFalsely : Prop := fnTellReportsExactlyTheUntoldLocalLocksRow.holds Try.pinned (OpenSpec.ofChange fnTellReportsExactlyTheUntoldLocalLocksWrong)

/-- 'zzlaws_root_b1.FnAddStoresTheLockAndMovesNoOther': WHATEVER THE INPUT: true; the input reads as it did. -/
def fnAddStoresTheLockAndMovesNoOtherSpec : ChangeSpec := { name := "fnAddStoresTheLockAndMovesNoOther", fn := fun _ => fun
  | [d1, d2, d3, d4, d5, d6] => { results := [.lit (.bool true)], args := [d1, d2, d3, d4, d5, d6] }
  | _ => none }
def fnAddStoresTheLockAndMovesNoOtherRow : OpenClaim := { program := "qxb6605402a", sum := "4a3c79e86cda3685f53b6deafac4e3218b4178f600548183e3a399e2e636d3e4", func := "example.com/latchkey/latchkey/zzlaws_root_b1.FnAddStoresTheLockAndMovesNoOther", spec := "fnAddStoresTheLockAndMovesNoOther", apart := false }
def FnAddStoresTheLockAndMovesNoOtherSaid : Prop := fnAddStoresTheLockAndMovesNoOtherRow.holds Try.pinned (OpenSpec.ofChange fnAddStoresTheLockAndMovesNoOtherSpec)

/-- ITS FALSE NEIGHBOUR: 'it returns false'. Refute it at one input. -/
def fnAddStoresTheLockAndMovesNoOtherWrong : ChangeSpec := { name := "fnAddStoresTheLockAndMovesNoOther", fn := fun _ => fun
  | [d1, d2, d3, d4, d5, d6] => { results := [.lit (.bool false)], args := [d1, d2, d3, d4, d5, d6] }
  | _ => none }
def FnAddStoresTheLockAndMovesNoOtherWrongFalsely : Prop := fnAddStoresTheLockAndMovesNoOtherRow.holds Try.pinned (OpenSpec.ofChange fnAddStoresTheLockAndMovesNoOtherWrong)

/-- 'zzlaws_root_b1.FnPutRecordsTheLockAndKeepsUntoldComplete': WHATEVER THE INPUT: true; the input reads as it did. -/
def fnPutRecordsTheLockAndKeepsUntoldCompleteSpec : ChangeSpec := { name := "fnPutRecordsTheLockAndKeepsUntoldComplete", fn := fun _ => fun
  | [d1, d2, d3, d4, d5, d6] => { results := [.lit (.bool true)], args := [d1, d2, d3, d4, d5, d6] }
  | _ => none }
def fnPutRecordsTheLockAndKeepsUntoldCompleteRow : OpenClaim := { program := "qxb6605402a", sum := "4a3c79e86cda3685f53b6deafac4e3218b4178f600548183e3a399e2e636d3e4", func := "example.com/latchkey/latchkey/zzlaws_root_b1.FnPutRecordsTheLockAndKeepsUntoldComplete", spec := "fnPutRecordsTheLockAndKeepsUntoldComplete", apart := false }
def FnPutRecordsTheLockAndKeepsUntoldCompleteSaid : Prop := fnPutRecordsTheLockAndKeepsUntoldCompleteRow.holds Try.pinned (OpenSpec.ofChange fnPutRecordsTheLockAndKeepsUntoldCompleteSpec)

/-- ITS FALSE NEIGHBOUR: 'it returns false'. Refute it at one input. -/
def fnPutRecordsTheLockAndKeepsUntoldCompleteWrong : ChangeSpec := { name := "fnPutRecordsTheLockAndKeepsUntoldComplete", fn := fun _ => fun
  | [d1, d2, d3, d4, d5, d6] => { results := [.lit (.bool false)], args := [d1, d2, d3, d4, d5, d6] }
  | _ => none }
def FnPutRecordsTheLockAndKeepsUntoldCompleteWrongFalsely : Prop := fnPutRecordsTheLockAndKeepsUntoldCompleteRow.holds Try.pinned (OpenSpec.ofChange fnPutRecordsTheLockAndKeepsUntoldCompleteWrong)

/-- 'zzlaws_root_b1.FnPutThenTellReportsTheUntoldLocalLocks': WHATEVER THE INPUT: true; the input reads as it did. -/
def fnPutThenTellReportsTheUntoldLocalLocksSpec : ChangeSpec := { name := "fnPutThenTellReportsTheUntoldLocalLocks", fn := fun _ => fun
  | [d1, d2, d3, d4, d5, d6] => { results := [.lit (.bool true)], args := [d1, d2, d3, d4, d5, d6] }
  | _ => none }
def fnPutThenTellReportsTheUntoldLocalLocksRow : OpenClaim := { program := "qxb6605402a", sum := "4a3c79e86cda3685f53b6deafac4e3218b4178f600548183e3a399e2e636d3e4", func := "example.com/latchkey/latchkey/zzlaws_root_b1.FnPutThenTellReportsTheUntoldLocalLocks", spec := "fnPutThenTellReportsTheUntoldLocalLocks", apart := false }
def FnPutThenTellReportsTheUntoldLocalLocksSaid : Prop := fnPutThenTellReportsTheUntoldLocalLocksRow.holds Try.pinned (OpenSpec.ofChange fnPutThenTellReportsTheUntoldLocalLocksSpec)

/-- ITS FALSE NEIGHBOUR: 'it returns false'. Refute it at one input. -/
def fnPutThenTellReportsTheUntoldLocalLocksWrong : ChangeSpec := { name := "fnPutThenTellReportsTheUntoldLocalLocks", fn := fun _ => fun
  | [d1, d2, d3, d4, d5, d6] => { results := [.lit (.bool false)], args := [d1, d2, d3, d4, d5, d6] }
  | _ => none }
def FnPutThenTellReportsTheUntoldLocalLocksWrongFalsely : Prop := fnPutThenTellReportsTheUntoldLocalLocksRow.holds Try.pinned (OpenSpec.ofChange fnPutThenTellReportsTheUntoldLocalLocksWrong)

end Rows
end Go.Proofs.Qxb6605402a
