import Derived.Test.Qxb6628232aOver
namespace Go.Proofs.Qxb6628232a
open Go.ChangeShapes Go.WideShapes Go.ChangeAt Go.RowKit

/-- The first m elements of T, then X. -/
def Rs.app (T : Rs) (m : Nat) (X : Rs) : Rs := ⟨fun j => if j < m then T.r j else X.r (j - m), fun j => if j < m then T.s j else X.s (j - m), fun j => if j < m then T.d j else X.d (j - m)⟩

theorem ret_slice {ao : Option Addr} {a b c : Nat} (h : a = b) : Ending.returned (.slice ao a c) = .returned (.slice ao b c) := by rw [h]

theorem app_old (T X : Rs) (m : Nat) : ∀ i, i < m → T.r i = (T.app m X).r i ∧ T.s i = (T.app m X).s i ∧ T.d i = (T.app m X).d i := fun i hi => by
  simp only [Rs.app]; rw [if_pos hi, if_pos hi, if_pos hi]; exact ⟨rfl, rfl, rfl⟩
theorem app_new (T X : Rs) (m k : Nat) : (T.app m X).r (m + k) = X.r k ∧ (T.app m X).s (m + k) = X.s k ∧ (T.app m X).d (m + k) = X.d k := by
  simp only [Rs.app]; rw [if_neg (by omega), if_neg (by omega), if_neg (by omega), Nat.add_sub_cancel_left]; exact ⟨rfl, rfl, rfl⟩

theorem app_fail (T X : Rs) (m n : Nat) : (T.app m X).failB (m + n) = (T.failB m || X.failB n) := by
  rw [Bool.eq_iff_iff, Bool.or_eq_true, Rs.failB_iff, Rs.failB_iff, Rs.failB_iff]
  constructor
  · rintro ⟨j, hj, h⟩
    by_cases l : j < m
    · exact .inl ⟨j, l, by rw [(app_old T X m j l).2.1]; exact h⟩
    · obtain ⟨k, rfl⟩ : ∃ k, j = m + k := ⟨j - m, by omega⟩
      exact .inr ⟨k, by omega, by rw [(app_new T X m k).2.1] at h; exact h⟩
  · rintro (⟨j, hj, h⟩ | ⟨k, hk, h⟩)
    · exact ⟨j, by omega, by rw [← (app_old T X m j hj).2.1]; exact h⟩
    · exact ⟨m + k, by omega, by rw [(app_new T X m k).2.1]; exact h⟩

/-- The slice value reads as the first len elements of T, its block lying below B. -/
def Rs.InB (T : Rs) (w : World) (B : Nat) (ao : Option Addr) (len : Nat) : Prop := 0 < len → ∃ b off, ao = some ⟨b, off, none⟩ ∧ b < B ∧ T.At w b off len

theorem Rs.In.toB {T : Rs} {w w' : World} {B : Nat} {ao : Option Addr} {len : Nat} (h : T.In w ao len) (hb : Below w.heap.size w w') (hB : w.heap.size ≤ B) : T.InB w' B ao len := fun h0 => by
  obtain ⟨b, off, rfl, hlt, hT⟩ := h h0
  exact ⟨b, off, rfl, by omega, hT.below hb hlt⟩

set_option maxHeartbeats 800000 in
theorem app_any (T X : Rs) (g m cap : Nat) (ao : Option Addr) (len c : Nat) (w : World) (hown : T.Own w g m cap) (hX : X.InB w g ao len) (hcap : m + len ≤ cap) (hm : m + len ≤ 1048576) :
    Calls Try.prog 7 #[.slice (some ⟨g, 0, none⟩) m cap, .slice ao len c] w fun e w' => e = .returned (.slice (some ⟨g, 0, none⟩) (m + len) cap) ∧ (T.app m X).Own w' g (m + len) cap ∧ Below g w w' := by
  obtain ⟨i0, hi0, hz0, hz1, hz2⟩ := info_parts Try.info32
  have h0 := hown.congr (app_old T X m)
  go_enter Try.func7, Try.ntmps7
  go_wp2
  go_loopw [0, 5] (fun dst j wr => ∃ k : Nat, k ≤ len ∧ j = .int .i64 k ∧ dst = .slice (some ⟨g, 0, none⟩) (m + k) cap ∧ (T.app m X).Own wr g (m + k) cap ∧ Below g w wr) (fun _ j _ => len - (intOf j).toNat)
  case atStart => exact ⟨0, Nat.zero_le _, rfl, rfl, h0, Below.refl _ _⟩
  case round =>
    obtain ⟨k, hk, rfl, rfl, HU, hnx⟩ := hrel
    by_cases hlt : k < len
    · obtain ⟨b, off, rfl, hb, hA⟩ := hX (by omega)
      obtain ⟨c0, c1, c2⟩ := (hA.below hnx hb) k hlt
      go_wp2_with (first
        | (at_builtin; go_must (refine wpList_append_fits _ rfl (.tmp 12) (.tmp 18) 28 rfl g 32 i0 3 Try.underlying28 hi0 hz1 g (m + k) cap _ rfl (World.ownsRow.alloc (HU.below hb5 HU.lt) _) ⟨w5.heap.size, 0, none⟩ 1 1 [.string (X.r k), .string (X.s k), .string (X.d k)] rfl rfl (new_cells _ _ _ _) (one_cells _ _ _) (by omega) ?_; intro w6 hown6 hgrow6))
        | (go_at_call 8; go_must (refine (one_any _ _ _ wr).mono ?_; rintro e w5 ⟨rfl, hb5⟩)))
      have HU6 : (T.app m X).Own w6 g (m + k + 1) cap := Rs.Own.grow hown6 (fun _ _ => ⟨rfl, rfl, rfl⟩) (app_new T X m k).1 (app_new T X m k).2.1 (app_new T X m k).2.2
      have hgl := HU.lt
      have hb6 : Below g w w6 := below_grown ((hnx.trans (hb5.mono (by omega))).alloc (by have := hb5.size; omega) _) hgrow6 (by have := hb5.size; simp; omega) (Nat.le_refl _)
      go_roundw
      case rel => exact ⟨k + 1, by omega, by go_num, rfl, HU6, hb6⟩
      case measure => simp [intOf]; omega
    · have hkl : Hid (k = len) := by show k = len; omega
      go_wp2
      go_ret
      exact ⟨ret_slice (by rw [hkl.out]), by rw [← hkl.out]; exact HU, hnx⟩
end Go.Proofs.Qxb6628232a
