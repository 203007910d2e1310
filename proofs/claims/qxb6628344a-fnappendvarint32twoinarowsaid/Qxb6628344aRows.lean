/-
  No cell of these rows narrows 'for every input' (looked for: loops, veiled, ifaces, maps, wideKeys, modest, calm, conditions, laid).
  DERIVED. THE GIVEN ROWS OF THIS SEAT. 2 by the template 'for every input the law returns true; each argument reads behind the call as it read before'; 0 by the template 'total and deterministic' (their statements: Qxb6628344aTotals.lean).
  GIVEN WITH THE SEED: the statements are not yours to turn. If you find one false, say at which input.
  Laid BY PROGRAM, IN A SANDBOX (cutbox-rows.mjs): the forced cells as the released guide's own fill.sh prints them over the translation 46f9b8d12912cb22… (all of the seat's roots in one cut). By AI agents, Wed Nov 11 2026. No macro, syntax, notation, axiom, sorry.
-/
import Derived.Test.Qxb6628344aChecked
import GoSem.Claim
import GoSem.ClaimJoined
import GoSem.ClaimMapViews
import Derived.JoinedTies
import Derived.KernelRfl
namespace Go.Proofs.Qxb6628344a
/- THE CELL 'sum', in the pinned program and in every row, IS THE sha256 OF THE DUMP (.gsa) THAT Qxb6628344aProg.lean LOADS. Nothing in Lean hashes anything: it is a label: what it is worth is what the hold of that sum in a sandbox is worth. -/
noncomputable def Try.pinned : Pinned := { name := "qxb6628344a", sum := "46f9b8d12912cb223becc69d592993b82fdefaab2a6800c572221406991f7ab8", checked := Try.checked }
namespace Rows
def none {H : Type} : Left H := { results := [], args := [] }

/-- 'zzlaws_internal_wasm_b1.FnAppendVarint32ComplementAndDecode': WHATEVER THE INPUT: true; the input reads as it did. -/
def fnAppendVarint32ComplementAndDecodeSpec : ChangeSpec := { name := "fnAppendVarint32ComplementAndDecode", fn := fun _ => fun
  | [d1, d2] => { results := [.lit (.bool true)], args := [d1, d2] }
  | _ => none }
def fnAppendVarint32ComplementAndDecodeRow : OpenClaim := { program := "qxb6628344a", sum := "46f9b8d12912cb223becc69d592993b82fdefaab2a6800c572221406991f7ab8", func := "example.com/box1/box1/zzlaws_internal_wasm_b1.FnAppendVarint32ComplementAndDecode", spec := "fnAppendVarint32ComplementAndDecode", apart := false }
def FnAppendVarint32ComplementAndDecodeSaid : Prop := fnAppendVarint32ComplementAndDecodeRow.holds Try.pinned (OpenSpec.ofChange fnAppendVarint32ComplementAndDecodeSpec)

/-- ITS FALSE NEIGHBOUR: 'it returns false'. Refute it at one input. -/
def fnAppendVarint32ComplementAndDecodeWrong : ChangeSpec := { name := "fnAppendVarint32ComplementAndDecode", fn := fun _ => fun
  | [d1, d2] => { results := [.lit (.bool false)], args := [d1, d2] }
  | _ => none }
def FnAppendVarint32ComplementAndDecodeWrongFalsely : Prop := fnAppendVarint32ComplementAndDecodeRow.holds Try.pinned (OpenSpec.ofChange fnAppendVarint32ComplementAndDecodeWrong)

/-- 'zzlaws_internal_wasm_b1.FnAppendVarint32TwoInARow': WHATEVER THE INPUT: true; the input reads as it did. -/
def fnAppendVarint32TwoInARowSpec : ChangeSpec := { name := "fnAppendVarint32TwoInARow", fn := fun _ => fun
  | [d1, d2, d3] => { results := [.lit (.bool true)], args := [d1, d2, d3] }
  | _ => none }
def fnAppendVarint32TwoInARowRow : OpenClaim := { program := "qxb6628344a", sum := "46f9b8d12912cb223becc69d592993b82fdefaab2a6800c572221406991f7ab8", func := "example.com/box1/box1/zzlaws_internal_wasm_b1.FnAppendVarint32TwoInARow", spec := "fnAppendVarint32TwoInARow", apart := false }
def FnAppendVarint32TwoInARowSaid : Prop := fnAppendVarint32TwoInARowRow.holds Try.pinned (OpenSpec.ofChange fnAppendVarint32TwoInARowSpec)

/-- ITS FALSE NEIGHBOUR: 'it returns false'. Refute it at one input. -/
def fnAppendVarint32TwoInARowWrong : ChangeSpec := { name := "fnAppendVarint32TwoInARow", fn := fun _ => fun
  | [d1, d2, d3] => { results := [.lit (.bool false)], args := [d1, d2, d3] }
  | _ => none }
def FnAppendVarint32TwoInARowWrongFalsely : Prop := fnAppendVarint32TwoInARowRow.holds Try.pinned (OpenSpec.ofChange fnAppendVarint32TwoInARowWrong)

end Rows
end Go.Proofs.Qxb6628344a
