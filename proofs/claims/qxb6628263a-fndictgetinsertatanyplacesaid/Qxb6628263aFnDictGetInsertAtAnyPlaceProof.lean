/-
  The proof of 'Rows.FnDictGetInsertAtAnyPlaceSaid'. The frame follows the guide's template for laws over slices, turned by hand to a slice of strings, a slice of byte slices and a byte slice; the walk lies in Qxb6628263aInsert.
-/
import Derived.Test.Qxb6628263aRows
import Derived.WalkKit
import Derived.ProofKit
import Derived.OpenShut
import Derived.ShutString
import Derived.ChangeOld
import Derived.Below
import Derived.Test.Qxb6628263aInsert
import Derived.Test.Qxb6628263aOpen
namespace Go.Proofs.Qxb6628263a.fnDictGetInsertAtAnyPlace
open Go.ChangeShapes Go.WideShapes Go.ChangeAt Go.RowKit
open Go.ChangeMaps (open_string shut_string)
set_option linter.unusedVariables false

theorem own : ownKnob Try.prog.godebug = none := by kernel_rfl
theorem laidOut : laidOutB Try.prog = true := by kernel_rfl

theorem walk (E : Es) (ko vo : Option Addr) (n ck m cv : Nat) (pos : Int) (nk : ByteArray) (na : Option Addr) (nl nc : Nat) (key : ByteArray) (w : World) (hn : n ≤ 9223372036854775807) (hm : m ≤ 9223372036854775807) (hK : E.KIn w ko n) (hV : E.VIn w vo m) (hS : E.Ok m) (hN : 0 < nl → ∃ b off, na = some ⟨b, off, none⟩) :
    Calls Try.prog 4 #[.slice ko n ck, .slice vo m cv, .int .i64 pos, .string nk, .slice na nl nc, .string key] w fun e w' => e = .returned (.bool true) ∧ Below w.heap.size w w' := by
  by_cases hb : 65536 < n ∨ 65536 < m ∨ 1048576 < key.size ∨ 1048576 < nk.size ∨ 1048576 < nl
  · exact ins_big E ko vo n ck m cv pos nk na nl nc key w hn hm (by omega) hK hV
  · exact ins_in E ko vo n ck m cv pos nk na nl nc key w (by omega) (by omega) (by omega) (by omega) (by omega) hK hV hS hN

set_option maxRecDepth 100000 in
theorem lifted (os : Os) (started : os.Started) (H : Type) (enc : TypeId × Value → H) :
    ReturnsInHanded {} Try.checked os 4 .any (Rows.fnDictGetInsertAtAnyPlaceSpec.pre6 enc Try.prog Try.f4 Rows.fnDictGetInsertAtAnyPlaceRow.domain false) (Rows.fnDictGetInsertAtAnyPlaceSpec.post enc Try.prog Try.f4 false true false false) := by
  refine returnsInHanded_of_change (C := Try.checked) own started (by kernel_rfl) Try.func4
    (ChangeSpec.witness6 (enc := enc) (C := Try.checked) false ⟨#[], #[.slice none 0 0, .slice none 0 0, .int .i64 0, .string ByteArray.empty, .slice none 0 0, .string ByteArray.empty], []⟩ 8 (by kernel_rfl) (by kernel_rfl) (by kernel_rfl) (by kernel_rfl)) ?_
  intro W base args ds gs before hval0 hW hcnd _
  have hval : ∀ (j : Nat) t v, Try.f4.params[j]? = some t → args[j]? = some v → Value.okWide Try.prog W .any base t v := hval0
  have hW' := hW
  obtain ⟨p, q, hA0, hV, rfl, hfz, hnd⟩ := hW
  have hA : DataW.TrodAll enc Try.prog W 0 (fun _ => true) true Try.f4.params.toList args.toList ds p := hA0
  rw [Try.params4] at hA hval
  obtain ⟨v0, vs0, d0, ds0, p0, q0, hargs, rfl, rfl, h0, r0⟩ := trodAll_cons hA
  obtain ⟨v1, vs1, d1, ds1, p1, q1, rfl, rfl, rfl, h1, r1⟩ := trodAll_cons r0
  obtain ⟨v2, vs2, d2, ds2, p2, q2, rfl, rfl, rfl, h2, r2⟩ := trodAll_cons r1
  obtain ⟨v3, vs3, d3, ds3, p3, q3, rfl, rfl, rfl, h3, r3⟩ := trodAll_cons r2
  obtain ⟨v4, vs4, d4, ds4, p4, q4, rfl, rfl, rfl, h4, r4⟩ := trodAll_cons r3
  obtain ⟨v5, vs5, d5, ds5, p5, q5, rfl, rfl, rfl, h5, r5⟩ := trodAll_cons r4
  obtain ⟨rfl, rfl, rfl⟩ := trodAll_nil r5
  obtain rfl : args = #[v0, v1, v2, v3, v4, v5] := by cases args; simp_all
  obtain ⟨rfl, rfl⟩ := trodVars_none hV
  obtain ⟨a0, len0, cap0, rfl⟩ := okWide_slice Try.underlying22 (hval 0 22 v0 rfl rfl)
  obtain ⟨a1, len1, cap1, rfl⟩ := okWide_slice Try.underlying23 (hval 1 23 v1 rfl rfl)
  obtain ⟨a4, len4, cap4, rfl⟩ := okWide_slice Try.underlying25 (hval 4 25 v4 rfl rfl)
  have k0 := h0
  have lt0 : ∀ x ∈ p0, x.block < W.heap.size := by obtain ⟨m, hm⟩ := k0; exact DataW.trod_lt m _ _ _ hm
  have k1 := h1
  have lt1 : ∀ x ∈ p1, x.block < W.heap.size := by obtain ⟨m, hm⟩ := k1; exact DataW.trod_lt m _ _ _ hm
  have k4 := h4
  have lt4 : ∀ x ∈ p4, x.block < W.heap.size := by obtain ⟨m, hm⟩ := k4; exact DataW.trod_lt m _ _ _ hm
  obtain ⟨hmax, K, hK⟩ : len0 ≤ 9223372036854775807 ∧ ∃ K : Nat → ByteArray, ∀ a l c, (Es.mk K a l c).KIn W a0 len0 := by
    obtain ⟨fuel, hf⟩ := h0
    exact open_keys (by simpa [Value.cells] using hf)
  obtain ⟨hmax1, A, L, C, hVS⟩ : len1 ≤ 9223372036854775807 ∧ ∃ (A : Nat → Option Addr) (L C : Nat → Nat), ∀ K, (Es.mk K A L C).VIn W a1 len1 ∧ (Es.mk K A L C).Ok len1 := by
    obtain ⟨fuel, hf⟩ := h1
    exact open_vals (by simpa [Value.cells] using hf)
  obtain ⟨hmax4, hN⟩ : len4 ≤ 9223372036854775807 ∧ (0 < len4 → ∃ b off, a4 = some ⟨b, off, none⟩) := by
    obtain ⟨fuel, hf⟩ := h4
    exact open_bytes (w := W) (by simpa [Value.cells] using hf)
  obtain ⟨a2, rfl, rfl, rfl, w2⟩ := open_int Try.underlying3 (hval 2 3 v2 rfl rfl) h2
  obtain ⟨a3, rfl, rfl, rfl, w3⟩ := open_string Try.underlying9 (hval 3 9 v3 rfl rfl) h3
  obtain ⟨a5, rfl, rfl, rfl, w5⟩ := open_string Try.underlying9 (hval 5 9 v5 rfl rfl) h5
  clear hA0 hval0
  refine (walk ⟨K, A, L, C⟩ a0 a1 len0 cap0 len1 cap1 a2 a3 a4 len4 cap4 a5 W hmax hmax1 (hK _ _ _) (hVS _).1 (hVS _).2 hN).mono fun e W' ⟨he, bel⟩ => ?_
  subst he
  exact ⟨_, rfl, _, _, _, [], _, [], hW', trodAll_mk1 (shut_bool Try.underlying4 _), (trodAll_cons_mk (Below.trod laidOut (by kernel_rfl) (of_decide_eq_true (by kernel_rfl)) k0 bel lt0) (trodAll_cons_mk (Below.trod laidOut (by kernel_rfl) (of_decide_eq_true (by kernel_rfl)) k1 bel lt1) (trodAll_cons_mk (shut_int Try.underlying3 w2) (trodAll_cons_mk (shut_string Try.underlying9 w3) (trodAll_cons_mk (Below.trod laidOut (by kernel_rfl) (of_decide_eq_true (by kernel_rfl)) k4 bel lt4) (trodAll_cons_mk (shut_string Try.underlying9 w5) trodAll_mk0)))))), rfl, bel.frame _, fun h => by cases h⟩

theorem over : Rows.fnDictGetInsertAtAnyPlaceRow.holds Try.pinned (OpenSpec.ofChange Rows.fnDictGetInsertAtAnyPlaceSpec) :=
  OpenClaim.holds_of_wide 4 Try.f4 rfl rfl rfl rfl rfl rfl rfl ⟨rfl, rfl, rfl, rfl, rfl⟩ rfl rfl rfl rfl rfl (by kernel_rfl) Try.func4 (by kernel_rfl)
    (of_decide_eq_true (by kernel_rfl)) (by unfold Func.isWrapper; first | (rw [if_pos (by decide +kernel)]; kernel_rfl) | (rw [if_neg (by decide +kernel)]; exact ⟨rfl, rfl⟩))
    (fun os started H enc _ => lifted os started H enc)

/-- ████ THE STATEMENT ████ -/
theorem proved : Rows.FnDictGetInsertAtAnyPlaceSaid := over
#print axioms proved
end Go.Proofs.Qxb6628263a.fnDictGetInsertAtAnyPlace
