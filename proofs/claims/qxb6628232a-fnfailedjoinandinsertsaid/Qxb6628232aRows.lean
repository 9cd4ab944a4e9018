/-
  No cell of these rows narrows 'for every input' (looked for: loops, veiled, ifaces, maps, wideKeys, modest, calm, conditions, laid).
  DERIVED. THE GIVEN ROWS OF THIS SEAT. 2 by the template 'for every input the law returns true; each argument reads behind the call as it read before'; 0 by the template 'total and deterministic' (their statements: Qxb6628232aTotals.lean).
  GIVEN WITH THE SEED: the statements are not yours to turn. If you find one false, say at which input.
  Laid BY PROGRAM, IN A SANDBOX (cutbox-rows.mjs): the forced cells as the released guide's own fill.sh prints them over the translation 9fe0d01151bdabc9… (all of the seat's roots in one cut). By AI agents, Wed Nov 11 2026. No macro, syntax, notation, axiom, sorry.
-/
import Derived.Test.Qxb6628232aChecked
import GoSem.Claim
import GoSem.ClaimJoined
import GoSem.ClaimMapViews
import Derived.JoinedTies
import Derived.KernelRfl
namespace Go.Proofs.Qxb6628232a
/- THE CELL 'sum', in the pinned program and in every row, IS THE sha256 OF THE DUMP (.gsa) THAT Qxb6628232aProg.lean LOADS. Nothing in Lean hashes anything: it is a label: what it is worth is what the hold of that sum in a sandbox is worth. -/
noncomputable def Try.pinned : Pinned := { name := "qxb6628232a", sum := "9fe0d01151bdabc95fe54bfbc52b6a71462a07f467ecec5845a272041443fce2", checked := Try.checked }
namespace Rows
def none {H : Type} : Left H := { results := [], args := [] }

/-- 'zzlaws_pkg_check_b1.FnFailedJoinAndInsert': WHATEVER THE INPUT: true; the input reads as it did. -/
def fnFailedJoinAndInsertSpec : ChangeSpec := { name := "fnFailedJoinAndInsert", fn := fun _ => fun
  | [d1, d2, d3] => { results := [.lit (.bool true)], args := [d1, d2, d3] }
  | _ => none }
def fnFailedJoinAndInsertRow : OpenClaim := { program := "qxb6628232a", sum := "9fe0d01151bdabc95fe54bfbc52b6a71462a07f467ecec5845a272041443fce2", func := "example.com/vestledger/vestledger/zzlaws_pkg_check_b1.FnFailedJoinAndInsert", spec := "fnFailedJoinAndInsert", apart := false }
def FnFailedJoinAndInsertSaid : Prop := fnFailedJoinAndInsertRow.holds Try.pinned (OpenSpec.ofChange fnFailedJoinAndInsertSpec)

/-- ITS FALSE NEIGHBOUR: 'it returns false'. Refute it at one input. -/
def fnFailedJoinAndInsertWrong : ChangeSpec := { name := "fnFailedJoinAndInsert", fn := fun _ => fun
  | [d1, d2, d3] => { results := [.lit (.bool false)], args := [d1, d2, d3] }
  | _ => none }
def FnFailedJoinAndInsertWrongFalsely : Prop := fnFailedJoinAndInsertRow.holds Try.pinned (OpenSpec.ofChange fnFailedJoinAndInsertWrong)

/-- 'zzlaws_pkg_check_b1.FnFailedOverwriteAt': WHATEVER THE INPUT: true; the input reads as it did. -/
def fnFailedOverwriteAtSpec : ChangeSpec := { name := "fnFailedOverwriteAt", fn := fun _ => fun
  | [d1, d2, d3] => { results := [.lit (.bool true)], args := [d1, d2, d3] }
  | _ => none }
def fnFailedOverwriteAtRow : OpenClaim := { program := "qxb6628232a", sum := "9fe0d01151bdabc95fe54bfbc52b6a71462a07f467ecec5845a272041443fce2", func := "example.com/vestledger/vestledger/zzlaws_pkg_check_b1.FnFailedOverwriteAt", spec := "fnFailedOverwriteAt", apart := false }
def FnFailedOverwriteAtSaid : Prop := fnFailedOverwriteAtRow.holds Try.pinned (OpenSpec.ofChange fnFailedOverwriteAtSpec)

/-- ITS FALSE NEIGHBOUR: 'it returns false'. Refute it at one input. -/
def fnFailedOverwriteAtWrong : ChangeSpec := { name := "fnFailedOverwriteAt", fn := fun _ => fun
  | [d1, d2, d3] => { results := [.lit (.bool false)], args := [d1, d2, d3] }
  | _ => none }
def FnFailedOverwriteAtWrongFalsely : Prop := fnFailedOverwriteAtRow.holds Try.pinned (OpenSpec.ofChange fnFailedOverwriteAtWrong)

end Rows
end Go.Proofs.Qxb6628232a
