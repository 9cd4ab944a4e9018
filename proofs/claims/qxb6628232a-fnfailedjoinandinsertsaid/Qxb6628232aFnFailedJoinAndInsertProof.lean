/-
  The proof of 'Rows.FnFailedJoinAndInsertSaid'. The frame follows the guide's template for laws over slices, turned by hand to a slice of structs and a struct; the walk lies in Qxb6628232aJoin.
-/
import Derived.Test.Qxb6628232aRows
import Derived.WalkKit
import Derived.ProofKit
import Derived.OpenShut
import Derived.ShutString
import Derived.ChangeOld
import Derived.Below
import Derived.Test.Qxb6628232aJoin
import Derived.Test.Qxb6628232aOpen
namespace Go.Proofs.Qxb6628232a.fnFailedJoinAndInsert
open Go.ChangeShapes Go.WideShapes Go.ChangeAt Go.RowKit
open Go.ChangeMaps (open_string shut_string)
open Go.Joins (open_agg3)
set_option linter.unusedVariables false

theorem own : ownKnob Try.prog.godebug = none := by kernel_rfl
theorem laidOut : laidOutB Try.prog = true := by kernel_rfl

theorem walk (ao bo : Option Addr) (la ca lb cb : Nat) (T X : Rs) (r s d : ByteArray) (w : World) (hma : la ≤ 9223372036854775807) (hmb : lb ≤ 9223372036854775807) (hT : T.In w ao la) (hX : X.In w bo lb) :
    Calls Try.prog 3 #[.slice ao la ca, .agg #[.string r, .string s, .string d], .slice bo lb cb] w fun e w' => e = .returned (.bool true) ∧ Below w.heap.size w w' := by
  by_cases hb : 65536 < la ∨ 65536 < lb
  · exact join_big ao bo la ca lb cb T X r s d w hma hmb (by omega) hT hX
  · exact join_in ao bo la ca lb cb T X r s d w (by omega) (by omega) hT hX

set_option maxRecDepth 100000 in
theorem lifted (os : Os) (started : os.Started) (H : Type) (enc : TypeId × Value → H) :
    ReturnsInHanded {} Try.checked os 3 .any (Rows.fnFailedJoinAndInsertSpec.pre6 enc Try.prog Try.f3 Rows.fnFailedJoinAndInsertRow.domain false) (Rows.fnFailedJoinAndInsertSpec.post enc Try.prog Try.f3 false true false false) := by
  refine returnsInHanded_of_change (C := Try.checked) own started (by kernel_rfl) Try.func3
    (ChangeSpec.witness6 (enc := enc) (C := Try.checked) false ⟨#[], #[.slice none 0 0, .agg #[.string ByteArray.empty, .string ByteArray.empty, .string ByteArray.empty], .slice none 0 0], []⟩ 8 (by kernel_rfl) (by kernel_rfl) (by kernel_rfl) (by kernel_rfl)) ?_
  intro W base args ds gs before hval0 hW hcnd _
  have hval : ∀ (j : Nat) t v, Try.f3.params[j]? = some t → args[j]? = some v → Value.okWide Try.prog W .any base t v := hval0
  have hW' := hW
  obtain ⟨p, q, hA0, hV, rfl, hfz, hnd⟩ := hW
  have hA : DataW.TrodAll enc Try.prog W 0 (fun _ => true) true Try.f3.params.toList args.toList ds p := hA0
  rw [Try.params3] at hA hval
  obtain ⟨v0, vs0, d0, ds0, p0, q0, hargs, rfl, rfl, h0, r0⟩ := trodAll_cons hA
  obtain ⟨v1, vs1, d1, ds1, p1, q1, rfl, rfl, rfl, h1, r1⟩ := trodAll_cons r0
  obtain ⟨v2, vs2, d2, ds2, p2, q2, rfl, rfl, rfl, h2, r2⟩ := trodAll_cons r1
  obtain ⟨rfl, rfl, rfl⟩ := trodAll_nil r2
  obtain rfl : args = #[v0, v1, v2] := by cases args; simp_all
  obtain ⟨rfl, rfl⟩ := trodVars_none hV
  obtain ⟨a0, len0, cap0, rfl⟩ := okWide_slice Try.underlying22 (hval 0 22 v0 rfl rfl)
  obtain ⟨a2, len2, cap2, rfl⟩ := okWide_slice Try.underlying22 (hval 2 22 v2 rfl rfl)
  have k0 := h0
  have lt0 : ∀ x ∈ p0, x.block < W.heap.size := by obtain ⟨m, hm⟩ := k0; exact DataW.trod_lt m _ _ _ hm
  have k1 := h1
  have lt1 : ∀ x ∈ p1, x.block < W.heap.size := by obtain ⟨m, hm⟩ := k1; exact DataW.trod_lt m _ _ _ hm
  have k2 := h2
  have lt2 : ∀ x ∈ p2, x.block < W.heap.size := by obtain ⟨m, hm⟩ := k2; exact DataW.trod_lt m _ _ _ hm
  obtain ⟨hmax, T, hT⟩ : len0 ≤ 9223372036854775807 ∧ ∃ T : Rs, T.In W a0 len0 := by
    obtain ⟨fuel, hf⟩ := h0
    exact open_rs (by simpa [Value.cells] using hf)
  obtain ⟨hmax2, X, hX⟩ : len2 ≤ 9223372036854775807 ∧ ∃ X : Rs, X.In W a2 len2 := by
    obtain ⟨fuel, hf⟩ := h2
    exact open_rs (by simpa [Value.cells] using hf)
  obtain ⟨r, s, d, rfl⟩ : ∃ r s d : ByteArray, v1 = .agg #[.string r, .string s, .string d] := by
    obtain ⟨c0, c1, c2, y0, y1, y2, m, rfl, _, _, hy0, hy1, hy2⟩ := open_agg3 Try.underlying24 (by kernel_rfl) Try.cells24 (hval 1 24 v1 rfl rfl) h1
    obtain ⟨s0, e0, _, _⟩ := DataW.trod_string Try.underlying9 hy0
    obtain ⟨s1, e1, _, _⟩ := DataW.trod_string Try.underlying9 hy1
    obtain ⟨s2, e2, _, _⟩ := DataW.trod_string Try.underlying9 hy2
    simp at e0 e1 e2
    subst e0 e1 e2
    exact ⟨s0, s1, s2, rfl⟩
  clear hA0 hval0
  refine (walk a0 a2 len0 cap0 len2 cap2 T X r s d W hmax hmax2 hT hX).mono fun e W' ⟨he, bel⟩ => ?_
  subst he
  exact ⟨_, rfl, _, _, _, [], _, [], hW', trodAll_mk1 (shut_bool Try.underlying4 _), (trodAll_cons_mk (Below.trod laidOut (by kernel_rfl) (of_decide_eq_true (by kernel_rfl)) k0 bel lt0) (trodAll_cons_mk (Below.trod laidOut (by kernel_rfl) (of_decide_eq_true (by kernel_rfl)) k1 bel lt1) (trodAll_cons_mk (Below.trod laidOut (by kernel_rfl) (of_decide_eq_true (by kernel_rfl)) k2 bel lt2) trodAll_mk0))), rfl, bel.frame _, fun h => by cases h⟩

theorem over : Rows.fnFailedJoinAndInsertRow.holds Try.pinned (OpenSpec.ofChange Rows.fnFailedJoinAndInsertSpec) :=
  OpenClaim.holds_of_wide 3 Try.f3 rfl rfl rfl rfl rfl rfl rfl ⟨rfl, rfl, rfl, rfl, rfl⟩ rfl rfl rfl rfl rfl (by kernel_rfl) Try.func3 (by kernel_rfl)
    (of_decide_eq_true (by kernel_rfl)) (by unfold Func.isWrapper; first | (rw [if_pos (by decide +kernel)]; kernel_rfl) | (rw [if_neg (by decide +kernel)]; exact ⟨rfl, rfl⟩))
    (fun os started H enc _ => lifted os started H enc)

/-- ████ THE STATEMENT ████ -/
theorem proved : Rows.FnFailedJoinAndInsertSaid := over
#print axioms proved
end Go.Proofs.Qxb6628232a.fnFailedJoinAndInsert
