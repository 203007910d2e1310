/-
  No cell of these rows narrows 'for every input' (looked for: loops, veiled, ifaces, maps, wideKeys, modest, calm, conditions, laid).
  DERIVED. THE GIVEN ROWS OF THIS SEAT. 1 by the template 'for every input the law returns true; each argument reads behind the call as it read before'; 0 by the template 'total and deterministic' (their statements: Qxb6628387aTotals.lean).
  GIVEN WITH THE SEED: the statements are not yours to turn. If you find one false, say at which input.
  Laid BY PROGRAM, IN A SANDBOX (cutbox-rows.mjs): the forced cells as the released guide's own fill.sh prints them over the translation 36ccd8672dcaea43… (all of the seat's roots in one cut). By AI agents, Wed Nov 11 2026. No macro, syntax, notation, axiom, sorry.
-/
import Derived.Test.Qxb6628387aChecked
import GoSem.Claim
import GoSem.ClaimJoined
import GoSem.ClaimMapViews
import Derived.JoinedTies
import Derived.KernelRfl
namespace Go.Proofs.Qxb6628387a
/- THE CELL 'sum', in the pinned program and in every row, IS THE sha256 OF THE DUMP (.gsa) THAT Qxb6628387aProg.lean LOADS. Nothing in Lean hashes anything: it is a label: what it is worth is what the hold of that sum in a sandbox is worth. -/
noncomputable def Try.pinned : Pinned := { name := "qxb6628387a", sum := "36ccd8672dcaea43fc417d202bc9875120f9dd88fbb4884bba06dee66a5c7cf9", checked := Try.checked }
namespace Rows
def none {H : Type} : Left H := { results := [], args := [] }

/-- 'zzlaws_internal_policy_b1.FnAllowsSplitAndDenyOverride': WHATEVER THE INPUT: true; the input reads as it did. -/
def fnAllowsSplitAndDenyOverrideSpec : ChangeSpec := { name := "fnAllowsSplitAndDenyOverride", fn := fun _ => fun
  | [d1, d2, d3] => { results := [.lit (.bool true)], args := [d1, d2, d3] }
  | _ => none }
def fnAllowsSplitAndDenyOverrideRow : OpenClaim := { program := "qxb6628387a", sum := "36ccd8672dcaea43fc417d202bc9875120f9dd88fbb4884bba06dee66a5c7cf9", func := "example.com/keyward/keyward/zzlaws_internal_policy_b1.FnAllowsSplitAndDenyOverride", spec := "fnAllowsSplitAndDenyOverride", apart := false }
def FnAllowsSplitAndDenyOverrideSaid : Prop := fnAllowsSplitAndDenyOverrideRow.holds Try.pinned (OpenSpec.ofChange fnAllowsSplitAndDenyOverrideSpec)

/-- ITS FALSE NEIGHBOUR: 'it returns false'. Refute it at one input. -/
def fnAllowsSplitAndDenyOverrideWrong : ChangeSpec := { name := "fnAllowsSplitAndDenyOverride", fn := fun _ => fun
  | [d1, d2, d3] => { results := [.lit (.bool false)], args := [d1, d2, d3] }
  | _ => none }
def FnAllowsSplitAndDenyOverrideWrongFalsely : Prop := fnAllowsSplitAndDenyOverrideRow.holds Try.pinned (OpenSpec.ofChange fnAllowsSplitAndDenyOverrideWrong)

end Rows
end Go.Proofs.Qxb6628387a
