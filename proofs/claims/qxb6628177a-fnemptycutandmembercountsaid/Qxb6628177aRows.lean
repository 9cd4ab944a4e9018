/-
  No cell of these rows narrows 'for every input' (looked for: loops, veiled, ifaces, maps, wideKeys, modest, calm, conditions, laid).
  DERIVED. THE GIVEN ROWS OF THIS SEAT. 2 by the template 'for every input the law returns true; each argument reads behind the call as it read before'; 0 by the template 'total and deterministic' (their statements: Qxb6628177aTotals.lean).
  GIVEN WITH THE SEED: the statements are not yours to turn. If you find one false, say at which input.
  Laid BY PROGRAM, IN A SANDBOX (cutbox-rows.mjs): the forced cells as the released guide's own fill.sh prints them over the translation 0368b77a59c93167… (all of the seat's roots in one cut). By AI agents, Wed Nov 11 2026. No macro, syntax, notation, axiom, sorry.
-/
import Derived.Test.Qxb6628177aChecked
import GoSem.Claim
import GoSem.ClaimJoined
import GoSem.ClaimMapViews
import Derived.JoinedTies
import Derived.KernelRfl
namespace Go.Proofs.Qxb6628177a
/- THE CELL 'sum', in the pinned program and in every row, IS THE sha256 OF THE DUMP (.gsa) THAT Qxb6628177aProg.lean LOADS. Nothing in Lean hashes anything: it is a label: what it is worth is what the hold of that sum in a sandbox is worth. -/
noncomputable def Try.pinned : Pinned := { name := "qxb6628177a", sum := "0368b77a59c9316700b656122d9495701e2902099ab83780220be0090449aa12", checked := Try.checked }
namespace Rows
def none {H : Type} : Left H := { results := [], args := [] }

/-- 'zzlaws_internal_rarity_b1.FnEmptyCutAndMemberCount': WHATEVER THE INPUT: true; the input reads as it did. -/
def fnEmptyCutAndMemberCountSpec : ChangeSpec := { name := "fnEmptyCutAndMemberCount", fn := fun _ => fun
  | [d1, d2] => { results := [.lit (.bool true)], args := [d1, d2] }
  | _ => none }
def fnEmptyCutAndMemberCountRow : OpenClaim := { program := "qxb6628177a", sum := "0368b77a59c9316700b656122d9495701e2902099ab83780220be0090449aa12", func := "example.com/sieveflow/sieveflow/zzlaws_internal_rarity_b1.FnEmptyCutAndMemberCount", spec := "fnEmptyCutAndMemberCount", apart := false }
def FnEmptyCutAndMemberCountSaid : Prop := fnEmptyCutAndMemberCountRow.holds Try.pinned (OpenSpec.ofChange fnEmptyCutAndMemberCountSpec)

/-- ITS FALSE NEIGHBOUR: 'it returns false'. Refute it at one input. -/
def fnEmptyCutAndMemberCountWrong : ChangeSpec := { name := "fnEmptyCutAndMemberCount", fn := fun _ => fun
  | [d1, d2] => { results := [.lit (.bool false)], args := [d1, d2] }
  | _ => none }
def FnEmptyCutAndMemberCountWrongFalsely : Prop := fnEmptyCutAndMemberCountRow.holds Try.pinned (OpenSpec.ofChange fnEmptyCutAndMemberCountWrong)

/-- 'zzlaws_internal_rarity_b1.FnEmptyInsertWord': WHATEVER THE INPUT: true; the input reads as it did. -/
def fnEmptyInsertWordSpec : ChangeSpec := { name := "fnEmptyInsertWord", fn := fun _ => fun
  | [d1, d2, d3] => { results := [.lit (.bool true)], args := [d1, d2, d3] }
  | _ => none }
def fnEmptyInsertWordRow : OpenClaim := { program := "qxb6628177a", sum := "0368b77a59c9316700b656122d9495701e2902099ab83780220be0090449aa12", func := "example.com/sieveflow/sieveflow/zzlaws_internal_rarity_b1.FnEmptyInsertWord", spec := "fnEmptyInsertWord", apart := false }
def FnEmptyInsertWordSaid : Prop := fnEmptyInsertWordRow.holds Try.pinned (OpenSpec.ofChange fnEmptyInsertWordSpec)

/-- ITS FALSE NEIGHBOUR: 'it returns false'. Refute it at one input. -/
def fnEmptyInsertWordWrong : ChangeSpec := { name := "fnEmptyInsertWord", fn := fun _ => fun
  | [d1, d2, d3] => { results := [.lit (.bool false)], args := [d1, d2, d3] }
  | _ => none }
def FnEmptyInsertWordWrongFalsely : Prop := fnEmptyInsertWordRow.holds Try.pinned (OpenSpec.ofChange fnEmptyInsertWordWrong)

end Rows
end Go.Proofs.Qxb6628177a
