/-
  No cell of these rows narrows 'for every input' (looked for: loops, veiled, ifaces, maps, wideKeys, modest, calm, conditions, laid).
  DERIVED. THE GIVEN ROWS OF THIS SEAT. 2 by the template 'for every input the law returns true; each argument reads behind the call as it read before'; 0 by the template 'total and deterministic' (their statements: Qxb6628401aTotals.lean).
  GIVEN WITH THE SEED: the statements are not yours to turn. If you find one false, say at which input.
  Laid BY PROGRAM, IN A SANDBOX (cutbox-rows.mjs): the forced cells as the released guide's own fill.sh prints them over the translation 7cef9e8eff9ae1a0… (all of the seat's roots in one cut). By AI agents, Wed Nov 11 2026. No macro, syntax, notation, axiom, sorry.
-/
import Derived.Test.Qxb6628401aChecked
import GoSem.Claim
import GoSem.ClaimJoined
import GoSem.ClaimMapViews
import Derived.JoinedTies
import Derived.KernelRfl
namespace Go.Proofs.Qxb6628401a
/- THE CELL 'sum', in the pinned program and in every row, IS THE sha256 OF THE DUMP (.gsa) THAT Qxb6628401aProg.lean LOADS. Nothing in Lean hashes anything: it is a label: what it is worth is what the hold of that sum in a sandbox is worth. -/
noncomputable def Try.pinned : Pinned := { name := "qxb6628401a", sum := "7cef9e8eff9ae1a00e22aa051f817a2c66fb72349e4a3fc06295ad1bfc4847d0", checked := Try.checked }
namespace Rows
def none {H : Type} : Left H := { results := [], args := [] }

/-- 'zzlaws_root_b1.FnPanicFramesCut': WHATEVER THE INPUT: true; the input reads as it did. -/
def fnPanicFramesCutSpec : ChangeSpec := { name := "fnPanicFramesCut", fn := fun _ => fun
  | [d1, d2] => { results := [.lit (.bool true)], args := [d1, d2] }
  | _ => none }
def fnPanicFramesCutRow : OpenClaim := { program := "qxb6628401a", sum := "7cef9e8eff9ae1a00e22aa051f817a2c66fb72349e4a3fc06295ad1bfc4847d0", func := "example.com/spanwright/spanwright/zzlaws_root_b1.FnPanicFramesCut", spec := "fnPanicFramesCut", apart := false }
def FnPanicFramesCutSaid : Prop := fnPanicFramesCutRow.holds Try.pinned (OpenSpec.ofChange fnPanicFramesCutSpec)

/-- ITS FALSE NEIGHBOUR: 'it returns false'. Refute it at one input. -/
def fnPanicFramesCutWrong : ChangeSpec := { name := "fnPanicFramesCut", fn := fun _ => fun
  | [d1, d2] => { results := [.lit (.bool false)], args := [d1, d2] }
  | _ => none }
def FnPanicFramesCutWrongFalsely : Prop := fnPanicFramesCutRow.holds Try.pinned (OpenSpec.ofChange fnPanicFramesCutWrong)

/-- 'zzlaws_root_b1.FnPanicFramesInsertedPanic': WHATEVER THE INPUT: true; the input reads as it did. -/
def fnPanicFramesInsertedPanicSpec : ChangeSpec := { name := "fnPanicFramesInsertedPanic", fn := fun _ => fun
  | [d1, d2, d3, d4, d5] => { results := [.lit (.bool true)], args := [d1, d2, d3, d4, d5] }
  | _ => none }
def fnPanicFramesInsertedPanicRow : OpenClaim := { program := "qxb6628401a", sum := "7cef9e8eff9ae1a00e22aa051f817a2c66fb72349e4a3fc06295ad1bfc4847d0", func := "example.com/spanwright/spanwright/zzlaws_root_b1.FnPanicFramesInsertedPanic", spec := "fnPanicFramesInsertedPanic", apart := false }
def FnPanicFramesInsertedPanicSaid : Prop := fnPanicFramesInsertedPanicRow.holds Try.pinned (OpenSpec.ofChange fnPanicFramesInsertedPanicSpec)

/-- ITS FALSE NEIGHBOUR: 'it returns false'. Refute it at one input. -/
def fnPanicFramesInsertedPanicWrong : ChangeSpec := { name := "fnPanicFramesInsertedPanic", fn := fun _ => fun
  | [d1, d2, d3, d4, d5] => { results := [.lit (.bool false)], args := [d1, d2, d3, d4, d5] }
  | _ => none }
def FnPanicFramesInsertedPanicWrongFalsely : Prop := fnPanicFramesInsertedPanicRow.holds Try.pinned (OpenSpec.ofChange fnPanicFramesInsertedPanicWrong)

end Rows
end Go.Proofs.Qxb6628401a
