/-
  No cell of these rows narrows 'for every input' (looked for: loops, veiled, ifaces, maps, wideKeys, modest, calm, conditions, laid).
  DERIVED. THE GIVEN ROWS OF THIS SEAT. 2 by the template 'for every input the law returns true; each argument reads behind the call as it read before'; 0 by the template 'total and deterministic' (their statements: Qxb6627493aTotals.lean).
  GIVEN WITH THE SEED: the statements are not yours to turn. If you find one false, say at which input.
  Laid BY PROGRAM, IN A SANDBOX (cutbox-rows.mjs): the forced cells as the released guide's own fill.sh prints them over the translation 9bfd837fb053d3c1… (all of the seat's roots in one cut). By AI agents, Wed Nov 11 2026. No macro, syntax, notation, axiom, sorry.
-/
import Derived.Test.Qxb6627493aChecked
import GoSem.Claim
import GoSem.ClaimJoined
import GoSem.ClaimMapViews
import Derived.JoinedTies
import Derived.KernelRfl
namespace Go.Proofs.Qxb6627493a
/- THE CELL 'sum', in the pinned program and in every row, IS THE sha256 OF THE DUMP (.gsa) THAT Qxb6627493aProg.lean LOADS. Nothing in Lean hashes anything: it is a label: what it is worth is what the hold of that sum in a sandbox is worth. -/
noncomputable def Try.pinned : Pinned := { name := "qxb6627493a", sum := "9bfd837fb053d3c16b119bb0681b81d17a93df5be0c8bdf59113c84bcb669957", checked := Try.checked }
namespace Rows
def none {H : Type} : Left H := { results := [], args := [] }

/-- 'zzlaws_internal_addr_b1.FnIsTextExactlyCanonicalHex': WHATEVER THE INPUT: true; the input reads as it did. -/
def fnIsTextExactlyCanonicalHexSpec : ChangeSpec := { name := "fnIsTextExactlyCanonicalHex", fn := fun _ => fun
  | [d] => { results := [.lit (.bool true)], args := [d] }
  | _ => none }
def fnIsTextExactlyCanonicalHexRow : OpenClaim := { program := "qxb6627493a", sum := "9bfd837fb053d3c16b119bb0681b81d17a93df5be0c8bdf59113c84bcb669957", func := "example.com/moraine/moraine/zzlaws_internal_addr_b1.FnIsTextExactlyCanonicalHex", spec := "fnIsTextExactlyCanonicalHex", apart := false }
def FnIsTextExactlyCanonicalHexSaid : Prop := fnIsTextExactlyCanonicalHexRow.holds Try.pinned (OpenSpec.ofChange fnIsTextExactlyCanonicalHexSpec)

/-- ITS FALSE NEIGHBOUR: 'it returns false'. Refute it at one input. -/
def fnIsTextExactlyCanonicalHexWrong : ChangeSpec := { name := "fnIsTextExactlyCanonicalHex", fn := fun _ => fun
  | [d] => { results := [.lit (.bool false)], args := [d] }
  | _ => none }
def FnIsTextExactlyCanonicalHexWrongFalsely : Prop := fnIsTextExactlyCanonicalHexRow.holds Try.pinned (OpenSpec.ofChange fnIsTextExactlyCanonicalHexWrong)

/-- 'zzlaws_internal_addr_b1.FnIsTextJudgesEachPartAtAnyCut': WHATEVER THE INPUT: true; the input reads as it did. -/
def fnIsTextJudgesEachPartAtAnyCutSpec : ChangeSpec := { name := "fnIsTextJudgesEachPartAtAnyCut", fn := fun _ => fun
  | [d1, d2] => { results := [.lit (.bool true)], args := [d1, d2] }
  | _ => none }
def fnIsTextJudgesEachPartAtAnyCutRow : OpenClaim := { program := "qxb6627493a", sum := "9bfd837fb053d3c16b119bb0681b81d17a93df5be0c8bdf59113c84bcb669957", func := "example.com/moraine/moraine/zzlaws_internal_addr_b1.FnIsTextJudgesEachPartAtAnyCut", spec := "fnIsTextJudgesEachPartAtAnyCut", apart := false }
def FnIsTextJudgesEachPartAtAnyCutSaid : Prop := fnIsTextJudgesEachPartAtAnyCutRow.holds Try.pinned (OpenSpec.ofChange fnIsTextJudgesEachPartAtAnyCutSpec)

/-- ITS FALSE NEIGHBOUR: 'it returns false'. Refute it at one input. -/
def fnIsTextJudgesEachPartAtAnyCutWrong : ChangeSpec := { name := "fnIsTextJudgesEachPartAtAnyCut", fn := fun _ => fun
  | [d1, d2] => { results := [.lit (.bool false)], args := [d1, d2] }
  | _ => none }
def FnIsTextJudgesEachPartAtAnyCutWrongFalsely : Prop := fnIsTextJudgesEachPartAtAnyCutRow.holds Try.pinned (OpenSpec.ofChange fnIsTextJudgesEachPartAtAnyCutWrong)

end Rows
end Go.Proofs.Qxb6627493a
