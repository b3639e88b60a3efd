/-
  No cell of these rows narrows 'for every input' (looked for: loops, veiled, ifaces, maps, wideKeys, modest, calm, conditions, laid).
  DERIVED. THE GIVEN ROWS OF THIS SEAT. 3 by the template 'for every input the law returns true; each argument reads behind the call as it read before'; 0 by the template 'total and deterministic' (their statements: Qxb6604693aTotals.lean).
  GIVEN WITH THE SEED: the statements are not yours to turn. If you find one false, say at which input.
  Laid BY PROGRAM, IN A SANDBOX (cutbox-rows.mjs): the forced cells as the released guide's own fill.sh prints them over the translation 409ac8e25195256f… (all of the seat's roots in one cut). By AI agents, Wed Nov 11 2026. No macro, syntax, notation, axiom, sorry.
-/
import Derived.Test.Qxb6604693aChecked
import GoSem.Claim
import GoSem.ClaimJoined
import GoSem.ClaimMapViews
import Derived.JoinedTies
import Derived.KernelRfl
namespace Go.Proofs.Qxb6604693a
/- THE CELL 'sum', in the pinned program and in every row, IS THE sha256 OF THE DUMP (.gsa) THAT Qxb6604693aProg.lean LOADS. Nothing in Lean hashes anything: it is a label: what it is worth is what the hold of that sum in a sandbox is worth. -/
noncomputable def Try.pinned : Pinned := { name := "qxb6604693a", sum := "409ac8e25195256fb3d27a355e582e7ed6b48faf3623bc4415c3d2377b9cee62", checked := Try.checked }
namespace Rows
def none {H : Type} : Left H := { results := [], args := [] }

/-- 'zzlaws_tpl_b1.FnHasElementSplitAndInsert': WHATEVER THE INPUT: true; the input reads as it did. -/
def fnHasElementSplitAndInsertSpec : ChangeSpec := { name := "fnHasElementSplitAndInsert", fn := fun _ => fun
  | [d1, d2, d3] => { results := [.lit (.bool true)], args := [d1, d2, d3] }
  | _ => none }
def fnHasElementSplitAndInsertRow : OpenClaim := { program := "qxb6604693a", sum := "409ac8e25195256fb3d27a355e582e7ed6b48faf3623bc4415c3d2377b9cee62", func := "example.com/kilnwright/kilnwright/zzlaws_tpl_b1.FnHasElementSplitAndInsert", spec := "fnHasElementSplitAndInsert", apart := false }
def FnHasElementSplitAndInsertSaid : Prop := fnHasElementSplitAndInsertRow.holds Try.pinned (OpenSpec.ofChange fnHasElementSplitAndInsertSpec)

/-- ITS FALSE NEIGHBOUR: 'it returns false'. Refute it at one input. -/
def fnHasElementSplitAndInsertWrong : ChangeSpec := { name := "fnHasElementSplitAndInsert", fn := fun _ => fun
  | [d1, d2, d3] => { results := [.lit (.bool false)], args := [d1, d2, d3] }
  | _ => none }
def FnHasElementSplitAndInsertWrongFalsely : Prop := fnHasElementSplitAndInsertRow.holds Try.pinned (OpenSpec.ofChange fnHasElementSplitAndInsertWrong)

/-- 'zzlaws_tpl_b1.FnHasElementFindsMembersOrderFree': WHATEVER THE INPUT: true; the input reads as it did. -/
def fnHasElementFindsMembersOrderFreeSpec : ChangeSpec := { name := "fnHasElementFindsMembersOrderFree", fn := fun _ => fun
  | [d1, d2] => { results := [.lit (.bool true)], args := [d1, d2] }
  | _ => none }
def fnHasElementFindsMembersOrderFreeRow : OpenClaim := { program := "qxb6604693a", sum := "409ac8e25195256fb3d27a355e582e7ed6b48faf3623bc4415c3d2377b9cee62", func := "example.com/kilnwright/kilnwright/zzlaws_tpl_b1.FnHasElementFindsMembersOrderFree", spec := "fnHasElementFindsMembersOrderFree", apart := false }
def FnHasElementFindsMembersOrderFreeSaid : Prop := fnHasElementFindsMembersOrderFreeRow.holds Try.pinned (OpenSpec.ofChange fnHasElementFindsMembersOrderFreeSpec)

/-- ITS FALSE NEIGHBOUR: 'it returns false'. Refute it at one input. -/
def fnHasElementFindsMembersOrderFreeWrong : ChangeSpec := { name := "fnHasElementFindsMembersOrderFree", fn := fun _ => fun
  | [d1, d2] => { results := [.lit (.bool false)], args := [d1, d2] }
  | _ => none }
def FnHasElementFindsMembersOrderFreeWrongFalsely : Prop := fnHasElementFindsMembersOrderFreeRow.holds Try.pinned (OpenSpec.ofChange fnHasElementFindsMembersOrderFreeWrong)

/-- 'zzlaws_tpl_b1.FnIsLayoutSuffixAppended': WHATEVER THE INPUT: true; the input reads as it did. -/
def fnIsLayoutSuffixAppendedSpec : ChangeSpec := { name := "fnIsLayoutSuffixAppended", fn := fun _ => fun
  | [d] => { results := [.lit (.bool true)], args := [d] }
  | _ => none }
def fnIsLayoutSuffixAppendedRow : OpenClaim := { program := "qxb6604693a", sum := "409ac8e25195256fb3d27a355e582e7ed6b48faf3623bc4415c3d2377b9cee62", func := "example.com/kilnwright/kilnwright/zzlaws_tpl_b1.FnIsLayoutSuffixAppended", spec := "fnIsLayoutSuffixAppended", apart := false }
def FnIsLayoutSuffixAppendedSaid : Prop := fnIsLayoutSuffixAppendedRow.holds Try.pinned (OpenSpec.ofChange fnIsLayoutSuffixAppendedSpec)

/-- ITS FALSE NEIGHBOUR: 'it returns false'. Refute it at one input. -/
def fnIsLayoutSuffixAppendedWrong : ChangeSpec := { name := "fnIsLayoutSuffixAppended", fn := fun _ => fun
  | [d] => { results := [.lit (.bool false)], args := [d] }
  | _ => none }
def FnIsLayoutSuffixAppendedWrongFalsely : Prop := fnIsLayoutSuffixAppendedRow.holds Try.pinned (OpenSpec.ofChange fnIsLayoutSuffixAppendedWrong)

end Rows
end Go.Proofs.Qxb6604693a
