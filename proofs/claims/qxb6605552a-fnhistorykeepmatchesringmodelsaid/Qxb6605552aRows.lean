/-
  No cell of these rows narrows 'for every input' (looked for: loops, veiled, ifaces, maps, wideKeys, modest, calm, conditions, laid).
  DERIVED. THE GIVEN ROWS OF THIS SEAT. 3 by the template 'for every input the law returns true; each argument reads behind the call as it read before'; 0 by the template 'total and deterministic' (their statements: Qxb6605552aTotals.lean).
  GIVEN WITH THE SEED: the statements are not yours to turn. If you find one false, say at which input.
  Laid BY PROGRAM, IN A SANDBOX (cutbox-rows.mjs): the forced cells as the released guide's own fill.sh prints them over the translation 57105949904d897f… (all of the seat's roots in one cut). By AI agents, Wed Nov 11 2026. No macro, syntax, notation, axiom, sorry.
-/
import Derived.Test.Qxb6605552aChecked
import GoSem.Claim
import GoSem.ClaimJoined
import GoSem.ClaimMapViews
import Derived.JoinedTies
import Derived.KernelRfl
namespace Go.Proofs.Qxb6605552a
/- THE CELL 'sum', in the pinned program and in every row, IS THE sha256 OF THE DUMP (.gsa) THAT Qxb6605552aProg.lean LOADS. Nothing in Lean hashes anything: it is a label: what it is worth is what the hold of that sum in a sandbox is worth. -/
noncomputable def Try.pinned : Pinned := { name := "qxb6605552a", sum := "57105949904d897fd25eacb905e9a6eb670bf7e6c325bedf4193a20d64569f01", checked := Try.checked }
namespace Rows
def none {H : Type} : Left H := { results := [], args := [] }

/-- 'zzlaws_internal_protocol_b1.FnUpMembersIsTheRestInOrder': WHATEVER THE INPUT: true; the input reads as it did. -/
def fnUpMembersIsTheRestInOrderSpec : ChangeSpec := { name := "fnUpMembersIsTheRestInOrder", fn := fun _ => fun
  | [d1, d2] => { results := [.lit (.bool true)], args := [d1, d2] }
  | _ => none }
def fnUpMembersIsTheRestInOrderRow : OpenClaim := { program := "qxb6605552a", sum := "57105949904d897fd25eacb905e9a6eb670bf7e6c325bedf4193a20d64569f01", func := "example.com/coterie/coterie/zzlaws_internal_protocol_b1.FnUpMembersIsTheRestInOrder", spec := "fnUpMembersIsTheRestInOrder", apart := false }
def FnUpMembersIsTheRestInOrderSaid : Prop := fnUpMembersIsTheRestInOrderRow.holds Try.pinned (OpenSpec.ofChange fnUpMembersIsTheRestInOrderSpec)

/-- ITS FALSE NEIGHBOUR: 'it returns false'. Refute it at one input. -/
def fnUpMembersIsTheRestInOrderWrong : ChangeSpec := { name := "fnUpMembersIsTheRestInOrder", fn := fun _ => fun
  | [d1, d2] => { results := [.lit (.bool false)], args := [d1, d2] }
  | _ => none }
def FnUpMembersIsTheRestInOrderWrongFalsely : Prop := fnUpMembersIsTheRestInOrderRow.holds Try.pinned (OpenSpec.ofChange fnUpMembersIsTheRestInOrderWrong)

/-- 'zzlaws_internal_protocol_b1.FnHistoryKeepMatchesRingModel': WHATEVER THE INPUT: true; the input reads as it did. -/
def fnHistoryKeepMatchesRingModelSpec : ChangeSpec := { name := "fnHistoryKeepMatchesRingModel", fn := fun _ => fun
  | [d1, d2, d3, d4, d5, d6, d7, d8, d9] => { results := [.lit (.bool true)], args := [d1, d2, d3, d4, d5, d6, d7, d8, d9] }
  | _ => none }
def fnHistoryKeepMatchesRingModelRow : OpenClaim := { program := "qxb6605552a", sum := "57105949904d897fd25eacb905e9a6eb670bf7e6c325bedf4193a20d64569f01", func := "example.com/coterie/coterie/zzlaws_internal_protocol_b1.FnHistoryKeepMatchesRingModel", spec := "fnHistoryKeepMatchesRingModel", apart := false }
def FnHistoryKeepMatchesRingModelSaid : Prop := fnHistoryKeepMatchesRingModelRow.holds Try.pinned (OpenSpec.ofChange fnHistoryKeepMatchesRingModelSpec)

/-- ITS FALSE NEIGHBOUR: 'it returns false'. Refute it at one input. -/
def fnHistoryKeepMatchesRingModelWrong : ChangeSpec := { name := "fnHistoryKeepMatchesRingModel", fn := fun _ => fun
  | [d1, d2, d3, d4, d5, d6, d7, d8, d9] => { results := [.lit (.bool false)], args := [d1, d2, d3, d4, d5, d6, d7, d8, d9] }
  | _ => none }
def FnHistoryKeepMatchesRingModelWrongFalsely : Prop := fnHistoryKeepMatchesRingModelRow.holds Try.pinned (OpenSpec.ofChange fnHistoryKeepMatchesRingModelWrong)

/-- 'zzlaws_internal_protocol_b1.FnHistoryKeepScriptKeepsLastRetainMessages': WHATEVER THE INPUT: true; the input reads as it did. -/
def fnHistoryKeepScriptKeepsLastRetainMessagesSpec : ChangeSpec := { name := "fnHistoryKeepScriptKeepsLastRetainMessages", fn := fun _ => fun
  | [d1, d2, d3] => { results := [.lit (.bool true)], args := [d1, d2, d3] }
  | _ => none }
def fnHistoryKeepScriptKeepsLastRetainMessagesRow : OpenClaim := { program := "qxb6605552a", sum := "57105949904d897fd25eacb905e9a6eb670bf7e6c325bedf4193a20d64569f01", func := "example.com/coterie/coterie/zzlaws_internal_protocol_b1.FnHistoryKeepScriptKeepsLastRetainMessages", spec := "fnHistoryKeepScriptKeepsLastRetainMessages", apart := false }
def FnHistoryKeepScriptKeepsLastRetainMessagesSaid : Prop := fnHistoryKeepScriptKeepsLastRetainMessagesRow.holds Try.pinned (OpenSpec.ofChange fnHistoryKeepScriptKeepsLastRetainMessagesSpec)

/-- ITS FALSE NEIGHBOUR: 'it returns false'. Refute it at one input. -/
def fnHistoryKeepScriptKeepsLastRetainMessagesWrong : ChangeSpec := { name := "fnHistoryKeepScriptKeepsLastRetainMessages", fn := fun _ => fun
  | [d1, d2, d3] => { results := [.lit (.bool false)], args := [d1, d2, d3] }
  | _ => none }
def FnHistoryKeepScriptKeepsLastRetainMessagesWrongFalsely : Prop := fnHistoryKeepScriptKeepsLastRetainMessagesRow.holds Try.pinned (OpenSpec.ofChange fnHistoryKeepScriptKeepsLastRetainMessagesWrong)

end Rows
end Go.Proofs.Qxb6605552a
