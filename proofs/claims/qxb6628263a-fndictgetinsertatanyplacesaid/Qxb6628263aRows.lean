/-
  No cell of these rows narrows 'for every input' (looked for: loops, veiled, ifaces, maps, wideKeys, modest, calm, conditions, laid).
  DERIVED. THE GIVEN ROWS OF THIS SEAT. 2 by the template 'for every input the law returns true; each argument reads behind the call as it read before'; 0 by the template 'total and deterministic' (their statements: Qxb6628263aTotals.lean).
  GIVEN WITH THE SEED: the statements are not yours to turn. If you find one false, say at which input.
  Laid BY PROGRAM, IN A SANDBOX (cutbox-rows.mjs): the forced cells as the released guide's own fill.sh prints them over the translation a1663c2f4f5aa95f… (all of the seat's roots in one cut). By AI agents, Wed Nov 11 2026. No macro, syntax, notation, axiom, sorry.
-/
import Derived.Test.Qxb6628263aChecked
import GoSem.Claim
import GoSem.ClaimJoined
import GoSem.ClaimMapViews
import Derived.JoinedTies
import Derived.KernelRfl
namespace Go.Proofs.Qxb6628263a
/- THE CELL 'sum', in the pinned program and in every row, IS THE sha256 OF THE DUMP (.gsa) THAT Qxb6628263aProg.lean LOADS. Nothing in Lean hashes anything: it is a label: what it is worth is what the hold of that sum in a sandbox is worth. -/
noncomputable def Try.pinned : Pinned := { name := "qxb6628263a", sum := "a1663c2f4f5aa95fb639b05fe3bee85693540b465bcafab10eff83cb8e0951ec", checked := Try.checked }
namespace Rows
def none {H : Type} : Left H := { results := [], args := [] }

/-- 'zzlaws_pkg_bencode_b1.FnDictGetJoinAtAnyCut': WHATEVER THE INPUT: true; the input reads as it did. -/
def fnDictGetJoinAtAnyCutSpec : ChangeSpec := { name := "fnDictGetJoinAtAnyCut", fn := fun _ => fun
  | [d1, d2, d3, d4] => { results := [.lit (.bool true)], args := [d1, d2, d3, d4] }
  | _ => none }
def fnDictGetJoinAtAnyCutRow : OpenClaim := { program := "qxb6628263a", sum := "a1663c2f4f5aa95fb639b05fe3bee85693540b465bcafab10eff83cb8e0951ec", func := "example.com/swarmseal/swarmseal/zzlaws_pkg_bencode_b1.FnDictGetJoinAtAnyCut", spec := "fnDictGetJoinAtAnyCut", apart := false }
def FnDictGetJoinAtAnyCutSaid : Prop := fnDictGetJoinAtAnyCutRow.holds Try.pinned (OpenSpec.ofChange fnDictGetJoinAtAnyCutSpec)

/-- ITS FALSE NEIGHBOUR: 'it returns false'. Refute it at one input. -/
def fnDictGetJoinAtAnyCutWrong : ChangeSpec := { name := "fnDictGetJoinAtAnyCut", fn := fun _ => fun
  | [d1, d2, d3, d4] => { results := [.lit (.bool false)], args := [d1, d2, d3, d4] }
  | _ => none }
def FnDictGetJoinAtAnyCutWrongFalsely : Prop := fnDictGetJoinAtAnyCutRow.holds Try.pinned (OpenSpec.ofChange fnDictGetJoinAtAnyCutWrong)

/-- 'zzlaws_pkg_bencode_b1.FnDictGetInsertAtAnyPlace': WHATEVER THE INPUT: true; the input reads as it did. -/
def fnDictGetInsertAtAnyPlaceSpec : ChangeSpec := { name := "fnDictGetInsertAtAnyPlace", fn := fun _ => fun
  | [d1, d2, d3, d4, d5, d6] => { results := [.lit (.bool true)], args := [d1, d2, d3, d4, d5, d6] }
  | _ => none }
def fnDictGetInsertAtAnyPlaceRow : OpenClaim := { program := "qxb6628263a", sum := "a1663c2f4f5aa95fb639b05fe3bee85693540b465bcafab10eff83cb8e0951ec", func := "example.com/swarmseal/swarmseal/zzlaws_pkg_bencode_b1.FnDictGetInsertAtAnyPlace", spec := "fnDictGetInsertAtAnyPlace", apart := false }
def FnDictGetInsertAtAnyPlaceSaid : Prop := fnDictGetInsertAtAnyPlaceRow.holds Try.pinned (OpenSpec.ofChange fnDictGetInsertAtAnyPlaceSpec)

/-- ITS FALSE NEIGHBOUR: 'it returns false'. Refute it at one input. -/
def fnDictGetInsertAtAnyPlaceWrong : ChangeSpec := { name := "fnDictGetInsertAtAnyPlace", fn := fun _ => fun
  | [d1, d2, d3, d4, d5, d6] => { results := [.lit (.bool false)], args := [d1, d2, d3, d4, d5, d6] }
  | _ => none }
def FnDictGetInsertAtAnyPlaceWrongFalsely : Prop := fnDictGetInsertAtAnyPlaceRow.holds Try.pinned (OpenSpec.ofChange fnDictGetInsertAtAnyPlaceWrong)

end Rows
end Go.Proofs.Qxb6628263a
