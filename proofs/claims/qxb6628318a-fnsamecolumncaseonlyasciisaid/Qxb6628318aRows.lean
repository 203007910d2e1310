/-
  No cell of these rows narrows 'for every input' (looked for: loops, veiled, ifaces, maps, wideKeys, modest, calm, conditions, laid).
  DERIVED. THE GIVEN ROWS OF THIS SEAT. 2 by the template 'for every input the law returns true; each argument reads behind the call as it read before'; 0 by the template 'total and deterministic' (their statements: Qxb6628318aTotals.lean).
  GIVEN WITH THE SEED: the statements are not yours to turn. If you find one false, say at which input.
  Laid BY PROGRAM, IN A SANDBOX (cutbox-rows.mjs): the forced cells as the released guide's own fill.sh prints them over the translation 96e3beae8b08ad95… (all of the seat's roots in one cut). By AI agents, Wed Nov 11 2026. No macro, syntax, notation, axiom, sorry.
-/
import Derived.Test.Qxb6628318aChecked
import GoSem.Claim
import GoSem.ClaimJoined
import GoSem.ClaimMapViews
import Derived.JoinedTies
import Derived.KernelRfl
namespace Go.Proofs.Qxb6628318a
/- THE CELL 'sum', in the pinned program and in every row, IS THE sha256 OF THE DUMP (.gsa) THAT Qxb6628318aProg.lean LOADS. Nothing in Lean hashes anything: it is a label: what it is worth is what the hold of that sum in a sandbox is worth. -/
noncomputable def Try.pinned : Pinned := { name := "qxb6628318a", sum := "96e3beae8b08ad952ceaf8c5e626fcf0ab3acb7b53aee2b2bc87074eebae40a9", checked := Try.checked }
namespace Rows
def none {H : Type} : Left H := { results := [], args := [] }

/-- 'zzlaws_config_b1.FnSameColumnCutAndRecase': WHATEVER THE INPUT: true; the input reads as it did. -/
def fnSameColumnCutAndRecaseSpec : ChangeSpec := { name := "fnSameColumnCutAndRecase", fn := fun _ => fun
  | [d1, d2, d3, d4] => { results := [.lit (.bool true)], args := [d1, d2, d3, d4] }
  | _ => none }
def fnSameColumnCutAndRecaseRow : OpenClaim := { program := "qxb6628318a", sum := "96e3beae8b08ad952ceaf8c5e626fcf0ab3acb7b53aee2b2bc87074eebae40a9", func := "example.com/relatch/relatch/zzlaws_config_b1.FnSameColumnCutAndRecase", spec := "fnSameColumnCutAndRecase", apart := false }
def FnSameColumnCutAndRecaseSaid : Prop := fnSameColumnCutAndRecaseRow.holds Try.pinned (OpenSpec.ofChange fnSameColumnCutAndRecaseSpec)

/-- ITS FALSE NEIGHBOUR: 'it returns false'. Refute it at one input. -/
def fnSameColumnCutAndRecaseWrong : ChangeSpec := { name := "fnSameColumnCutAndRecase", fn := fun _ => fun
  | [d1, d2, d3, d4] => { results := [.lit (.bool false)], args := [d1, d2, d3, d4] }
  | _ => none }
def FnSameColumnCutAndRecaseWrongFalsely : Prop := fnSameColumnCutAndRecaseRow.holds Try.pinned (OpenSpec.ofChange fnSameColumnCutAndRecaseWrong)

/-- 'zzlaws_config_b1.FnSameColumnCaseOnlyASCII': WHATEVER THE INPUT: true; the input reads as it did. -/
def fnSameColumnCaseOnlyASCIISpec : ChangeSpec := { name := "fnSameColumnCaseOnlyASCII", fn := fun _ => fun
  | [d1, d2, d3] => { results := [.lit (.bool true)], args := [d1, d2, d3] }
  | _ => none }
def fnSameColumnCaseOnlyASCIIRow : OpenClaim := { program := "qxb6628318a", sum := "96e3beae8b08ad952ceaf8c5e626fcf0ab3acb7b53aee2b2bc87074eebae40a9", func := "example.com/relatch/relatch/zzlaws_config_b1.FnSameColumnCaseOnlyASCII", spec := "fnSameColumnCaseOnlyASCII", apart := false }
def FnSameColumnCaseOnlyASCIISaid : Prop := fnSameColumnCaseOnlyASCIIRow.holds Try.pinned (OpenSpec.ofChange fnSameColumnCaseOnlyASCIISpec)

/-- ITS FALSE NEIGHBOUR: 'it returns false'. Refute it at one input. -/
def fnSameColumnCaseOnlyASCIIWrong : ChangeSpec := { name := "fnSameColumnCaseOnlyASCII", fn := fun _ => fun
  | [d1, d2, d3] => { results := [.lit (.bool false)], args := [d1, d2, d3] }
  | _ => none }
def FnSameColumnCaseOnlyASCIIWrongFalsely : Prop := fnSameColumnCaseOnlyASCIIRow.holds Try.pinned (OpenSpec.ofChange fnSameColumnCaseOnlyASCIIWrong)

end Rows
end Go.Proofs.Qxb6628318a
