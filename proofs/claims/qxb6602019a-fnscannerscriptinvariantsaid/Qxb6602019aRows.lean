/-
  No cell of these rows narrows 'for every input' (looked for: loops, veiled, ifaces, maps, wideKeys, modest, calm, conditions, laid).
  DERIVED. THE GIVEN ROWS OF THIS SEAT. 5 by the template 'for every input the law returns true; each argument reads behind the call as it read before'; 0 by the template 'total and deterministic' (their statements: Qxb6602019aTotals.lean).
  GIVEN WITH THE SEED: the statements are not yours to turn. If you find one false, say at which input.
  Laid BY PROGRAM, IN A SANDBOX (cutbox-rows.mjs): the forced cells as the released guide's own fill.sh prints them over the translation 105980d2d326e99f… (all of the seat's roots in one cut). By AI agents, Wed Nov 11 2026. No macro, syntax, notation, axiom, sorry.
-/
import Derived.Test.Qxb6602019aChecked
import GoSem.Claim
import GoSem.ClaimJoined
import GoSem.ClaimMapViews
import Derived.JoinedTies
import Derived.KernelRfl
namespace Go.Proofs.Qxb6602019a
/- THE CELL 'sum', in the pinned program and in every row, IS THE sha256 OF THE DUMP (.gsa) THAT Qxb6602019aProg.lean LOADS. Nothing in Lean hashes anything: it is a label: what it is worth is what the hold of that sum in a sandbox is worth. -/
noncomputable def Try.pinned : Pinned := { name := "qxb6602019a", sum := "105980d2d326e99f56ffdd9f0c7bd0916cb3e3111de52d3bfa08faf54247f8d4", checked := Try.checked }
namespace Rows
def none {H : Type} : Left H := { results := [], args := [] }

/-- 'zzlaws_pkg_input_b1.FnPeekExact': WHATEVER THE INPUT: true; the input reads as it did. -/
def fnPeekExactSpec : ChangeSpec := { name := "fnPeekExact", fn := fun _ => fun
  | [d1, d2, d3] => { results := [.lit (.bool true)], args := [d1, d2, d3] }
  | _ => none }
def fnPeekExactRow : OpenClaim := { program := "qxb6602019a", sum := "105980d2d326e99f56ffdd9f0c7bd0916cb3e3111de52d3bfa08faf54247f8d4", func := "example.com/guishu/guishu/zzlaws_pkg_input_b1.FnPeekExact", spec := "fnPeekExact", apart := false }
def FnPeekExactSaid : Prop := fnPeekExactRow.holds Try.pinned (OpenSpec.ofChange fnPeekExactSpec)

/-- ITS FALSE NEIGHBOUR: 'it returns false'. Refute it at one input. -/
def fnPeekExactWrong : ChangeSpec := { name := "fnPeekExact", fn := fun _ => fun
  | [d1, d2, d3] => { results := [.lit (.bool false)], args := [d1, d2, d3] }
  | _ => none }
def FnPeekExactWrongFalsely : Prop := fnPeekExactRow.holds Try.pinned (OpenSpec.ofChange fnPeekExactWrong)

/-- 'zzlaws_pkg_input_b1.FnPeekIdempotent': WHATEVER THE INPUT: true; the input reads as it did. -/
def fnPeekIdempotentSpec : ChangeSpec := { name := "fnPeekIdempotent", fn := fun _ => fun
  | [d1, d2, d3] => { results := [.lit (.bool true)], args := [d1, d2, d3] }
  | _ => none }
def fnPeekIdempotentRow : OpenClaim := { program := "qxb6602019a", sum := "105980d2d326e99f56ffdd9f0c7bd0916cb3e3111de52d3bfa08faf54247f8d4", func := "example.com/guishu/guishu/zzlaws_pkg_input_b1.FnPeekIdempotent", spec := "fnPeekIdempotent", apart := false }
def FnPeekIdempotentSaid : Prop := fnPeekIdempotentRow.holds Try.pinned (OpenSpec.ofChange fnPeekIdempotentSpec)

/-- ITS FALSE NEIGHBOUR: 'it returns false'. Refute it at one input. -/
def fnPeekIdempotentWrong : ChangeSpec := { name := "fnPeekIdempotent", fn := fun _ => fun
  | [d1, d2, d3] => { results := [.lit (.bool false)], args := [d1, d2, d3] }
  | _ => none }
def FnPeekIdempotentWrongFalsely : Prop := fnPeekIdempotentRow.holds Try.pinned (OpenSpec.ofChange fnPeekIdempotentWrong)

/-- 'zzlaws_pkg_input_b1.FnLiteralExact': WHATEVER THE INPUT: true; the input reads as it did. -/
def fnLiteralExactSpec : ChangeSpec := { name := "fnLiteralExact", fn := fun _ => fun
  | [d1, d2, d3] => { results := [.lit (.bool true)], args := [d1, d2, d3] }
  | _ => none }
def fnLiteralExactRow : OpenClaim := { program := "qxb6602019a", sum := "105980d2d326e99f56ffdd9f0c7bd0916cb3e3111de52d3bfa08faf54247f8d4", func := "example.com/guishu/guishu/zzlaws_pkg_input_b1.FnLiteralExact", spec := "fnLiteralExact", apart := false }
def FnLiteralExactSaid : Prop := fnLiteralExactRow.holds Try.pinned (OpenSpec.ofChange fnLiteralExactSpec)

/-- ITS FALSE NEIGHBOUR: 'it returns false'. Refute it at one input. -/
def fnLiteralExactWrong : ChangeSpec := { name := "fnLiteralExact", fn := fun _ => fun
  | [d1, d2, d3] => { results := [.lit (.bool false)], args := [d1, d2, d3] }
  | _ => none }
def FnLiteralExactWrongFalsely : Prop := fnLiteralExactRow.holds Try.pinned (OpenSpec.ofChange fnLiteralExactWrong)

/-- 'zzlaws_pkg_input_b1.FnLiteralPrefixLocal': WHATEVER THE INPUT: true; the input reads as it did. -/
def fnLiteralPrefixLocalSpec : ChangeSpec := { name := "fnLiteralPrefixLocal", fn := fun _ => fun
  | [d1, d2] => { results := [.lit (.bool true)], args := [d1, d2] }
  | _ => none }
def fnLiteralPrefixLocalRow : OpenClaim := { program := "qxb6602019a", sum := "105980d2d326e99f56ffdd9f0c7bd0916cb3e3111de52d3bfa08faf54247f8d4", func := "example.com/guishu/guishu/zzlaws_pkg_input_b1.FnLiteralPrefixLocal", spec := "fnLiteralPrefixLocal", apart := false }
def FnLiteralPrefixLocalSaid : Prop := fnLiteralPrefixLocalRow.holds Try.pinned (OpenSpec.ofChange fnLiteralPrefixLocalSpec)

/-- ITS FALSE NEIGHBOUR: 'it returns false'. Refute it at one input. -/
def fnLiteralPrefixLocalWrong : ChangeSpec := { name := "fnLiteralPrefixLocal", fn := fun _ => fun
  | [d1, d2] => { results := [.lit (.bool false)], args := [d1, d2] }
  | _ => none }
def FnLiteralPrefixLocalWrongFalsely : Prop := fnLiteralPrefixLocalRow.holds Try.pinned (OpenSpec.ofChange fnLiteralPrefixLocalWrong)

/-- 'zzlaws_pkg_input_b1.FnScannerScriptInvariant': WHATEVER THE INPUT: true; the input reads as it did. -/
def fnScannerScriptInvariantSpec : ChangeSpec := { name := "fnScannerScriptInvariant", fn := fun _ => fun
  | [d1, d2] => { results := [.lit (.bool true)], args := [d1, d2] }
  | _ => none }
def fnScannerScriptInvariantRow : OpenClaim := { program := "qxb6602019a", sum := "105980d2d326e99f56ffdd9f0c7bd0916cb3e3111de52d3bfa08faf54247f8d4", func := "example.com/guishu/guishu/zzlaws_pkg_input_b1.FnScannerScriptInvariant", spec := "fnScannerScriptInvariant", apart := false }
def FnScannerScriptInvariantSaid : Prop := fnScannerScriptInvariantRow.holds Try.pinned (OpenSpec.ofChange fnScannerScriptInvariantSpec)

/-- ITS FALSE NEIGHBOUR: 'it returns false'. Refute it at one input. -/
def fnScannerScriptInvariantWrong : ChangeSpec := { name := "fnScannerScriptInvariant", fn := fun _ => fun
  | [d1, d2] => { results := [.lit (.bool false)], args := [d1, d2] }
  | _ => none }
def FnScannerScriptInvariantWrongFalsely : Prop := fnScannerScriptInvariantRow.holds Try.pinned (OpenSpec.ofChange fnScannerScriptInvariantWrong)

end Rows
end Go.Proofs.Qxb6602019a
