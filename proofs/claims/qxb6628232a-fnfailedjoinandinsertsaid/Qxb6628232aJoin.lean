import Derived.Test.Qxb6628232aApp
import Derived.Test.Qxb6628232aSmall5
namespace Go.Proofs.Qxb6628232a
open Go.ChangeShapes Go.WideShapes Go.ChangeAt Go.RowKit

theorem app_zero (X : Rs) (g cap : Nat) (ao : Option Addr) (len c : Nat) (w : World) (hown : X.Own w g 0 cap) (hX : X.InB w g ao len) (hcap : len ≤ cap) (hm : len ≤ 1048576) :
    Calls Try.prog 7 #[.slice (some ⟨g, 0, none⟩) 0 cap, .slice ao len c] w fun e w' => e = .returned (.slice (some ⟨g, 0, none⟩) len cap) ∧ X.Own w' g len cap ∧ Below g w w' := by
  refine (app_any X X g 0 cap ao len c w hown hX (by omega) (by omega)).mono fun e w' ⟨he, ho, hb⟩ => ?_
  rw [Nat.zero_add] at he ho
  exact ⟨he, ho.congr (fun i _ => by have := app_new X X 0 i; rw [Nat.zero_add] at this; exact this), hb⟩

/-- The first m elements of T, then one more. -/
def Rs.snoc (T : Rs) (m : Nat) (r s d : ByteArray) : Rs := ⟨fun j => if j < m then T.r j else r, fun j => if j < m then T.s j else s, fun j => if j < m then T.d j else d⟩

theorem snoc_old (T : Rs) (m : Nat) (r s d : ByteArray) : ∀ i, i < m → T.r i = (T.snoc m r s d).r i ∧ T.s i = (T.snoc m r s d).s i ∧ T.d i = (T.snoc m r s d).d i := fun i hi => by
  simp only [Rs.snoc]; rw [if_pos hi, if_pos hi, if_pos hi]; exact ⟨rfl, rfl, rfl⟩
theorem snoc_fail (T : Rs) (m : Nat) (r s d : ByteArray) : (T.snoc m r s d).failB (m + 1) = (T.failB m || isFail s) := by
  have e : (T.snoc m r s d).failB m = T.failB m := by
    rw [Bool.eq_iff_iff, Rs.failB_iff, Rs.failB_iff]
    constructor
    · rintro ⟨i, hi, h⟩; exact ⟨i, hi, by rw [(snoc_old T m r s d i hi).2.1]; exact h⟩
    · rintro ⟨i, hi, h⟩; exact ⟨i, hi, by rw [← (snoc_old T m r s d i hi).2.1]; exact h⟩
  simp only [Rs.failB, e]
  simp only [Rs.snoc]
  rw [if_neg (by omega)]

theorem join_law (T X : Rs) (m n : Nat) : (T.app m X).failB (m + n) = (T.failB m || X.failB n) := app_fail T X m n
theorem insert_law (T X : Rs) (m n : Nat) (r s d : ByteArray) : ((T.snoc m r s d).app (m + 1) X).failB (m + 1 + n) = ((s.toList == [102, 97, 105, 108]) || (T.failB m || X.failB n)) := by
  rw [app_fail, snoc_fail]
  show (T.failB m || isFail s || X.failB n) = (isFail s || (T.failB m || X.failB n))
  cases T.failB m <;> cases isFail s <;> cases X.failB n <;> rfl

theorem bx {w w1 w2 W : World} {g : Nat} (h1 : Below (w.heap.size + 1) W w1) (h2 : Below g w1 w2) (hg : w.heap.size + 1 ≤ g) : Below (w.heap.size + 1) W w2 := h1.trans (h2.mono hg)

set_option maxRecDepth 100000 in
set_option maxHeartbeats 4000000 in
theorem join_in (ao bo : Option Addr) (la ca lb cb : Nat) (T X : Rs) (r s d : ByteArray) (w : World) (hla : la ≤ 65536) (hlb : lb ≤ 65536) (hT : T.In w ao la) (hX : X.In w bo lb) :
    Calls Try.prog 3 #[.slice ao la ca, .agg #[.string r, .string s, .string d], .slice bo lb cb] w fun e w' => e = .returned (.bool true) ∧ Below w.heap.size w w' := by
  obtain ⟨i0, hi0, hz0, hz1, hz2⟩ := info_parts Try.info32
  go_enter Try.func3, Try.ntmps3
  go_wp2_with (first
    | (go_at_call 5; go_must (refine (small5_any _ _ _ _ _ _ T X _ _ _ _ (by omega) (by omega) (hT.below ((Below.refl _ _).alloc (Nat.le_refl _) _)) (hX.below ((Below.refl _ _).alloc (Nat.le_refl _) _))).mono ?_; rintro e w1 ⟨⟨o, rfl, ho⟩, hb1⟩; cases o; all_goals (have hb1' := box_first hb1; clear hb1; obtain ⟨c0, c1, c2⟩ := box_cells hb1'; try (obtain ⟨⟨_, hsa⟩, ⟨_, hsb⟩, hr, hs, hd⟩ := ho rfl; clear ho))))
    | (go_at_call_of 6 ao; go_must (refine (bytes_any _ _ _ T _ _ (by omega) (hT.below (below_box hb1')) hsa (by omega) (by omega)).mono ?_; rintro e w2 ⟨⟨t1, o2, rfl, hto⟩, hb2⟩; cases o2; all_goals (have hb2' := box_chain hb1' hb2; clear hb2; try (obtain ⟨ht0, ht1⟩ := hto rfl; clear hto))))
    | (go_at_call_of 6 bo; go_must (refine (bytes_any _ _ _ X _ _ (by omega) (hX.below (below_box hb2')) hsb (by omega) (by omega)).mono ?_; rintro e w3 ⟨⟨t2, o3, rfl, _⟩, hb3⟩; cases o3; all_goals (have hb3' := box_chain hb2' hb3; clear hb3; have z1 := le_size hb3')))
    | (at_make; refine wpList_make_own _ rfl _ (.tmp 76) 28 rfl w3.heap.size 32 i0 _ 3 Try.underlying28 hi0 hz0 hz1 .i64 .i64 _ la rfl rfl rfl (bytes_le hz2 (by omega)) (le_max (by omega)) (Nat.le_refl _) ?_; intro w4 hown4 hgrow4; obtain ⟨A4, hb4⟩ := Rs.own_made (T := T) hown4 hgrow4; clear hown4 hgrow4; have hb4' := bx hb3' hb4 z1; clear hsa hsb hr hs hd c0 c1 c2)
    | (go_at_call_of 7 w3.heap.size; go_must (refine (app_zero T _ _ _ _ _ _ A4 (hT.toB (below_box hb4') (by omega)) (Nat.le_refl _) (by omega)).mono ?_; rintro e w5 ⟨rfl, A5, hb5⟩; have hb5' := bx hb4' hb5 z1; have z2 := A5.lt; clear A4 hb4 hb5))
    | (at_make; refine wpList_make_own _ rfl _ (.tmp 81) 28 rfl w5.heap.size 32 i0 _ 3 Try.underlying28 hi0 hz0 hz1 .i64 .i64 _ lb rfl rfl rfl (bytes_le hz2 (by omega)) (le_max (by omega)) (Nat.le_refl _) ?_; intro w6 hown6 hgrow6; obtain ⟨B6, hb6⟩ := Rs.own_made (T := X) hown6 hgrow6; clear hown6 hgrow6; have hb6' := bx hb5' hb6 (by omega); have A6 := A5.below hb6 z2; clear A5 hb6)
    | (go_at_call_of 7 w5.heap.size; go_must (refine (app_zero X _ _ _ _ _ _ B6 (hX.toB (below_box hb6') (by omega)) (Nat.le_refl _) (by omega)).mono ?_; rintro e w7 ⟨rfl, B7, hb7⟩; have hb7' := bx hb6' hb7 (by omega); have A7 := A6.below hb7 z2; have z3 := B7.lt; clear B6 A6 hb7))
    | (at_make; refine wpList_make_own _ rfl _ (.tmp 89) 28 rfl w7.heap.size 32 i0 _ 3 Try.underlying28 hi0 hz0 hz1 .i64 .i64 _ (la + lb) rfl rfl (by omega) (bytes_le hz2 (by omega)) (le_max (by omega)) (Nat.le_refl _) ?_; intro w8 hown8 hgrow8; obtain ⟨C8, hb8⟩ := Rs.own_made (T := T) hown8 hgrow8; clear hown8 hgrow8; have hb8' := bx hb7' hb8 (by omega); have A8 := A7.below hb8 (by omega); have B8 := B7.below hb8 z3; clear A7 B7 hb8)
    | (go_at_call_of 7 w7.heap.size; go_at_call_of 7 ao; go_must (refine (app_zero T _ _ _ _ _ _ C8 (hT.toB (below_box hb8') (by omega)) (by omega) (by omega)).mono ?_; rintro e w9 ⟨rfl, C9, hb9⟩; have hb9' := bx hb8' hb9 (by omega); have A9 := A8.below hb9 (by omega); have B9 := B8.below hb9 z3; clear C8 A8 B8 hb9))
    | (go_at_call_of 7 w7.heap.size; go_at_call_of 7 bo; go_must (refine (app_any T X _ _ _ _ _ _ _ C9 (hX.toB (below_box hb9') (by omega)) (by omega) (by omega)).mono ?_; rintro e w10 ⟨rfl, C10, hb10⟩; have hb10' := bx hb9' hb10 (by omega); have A10 := A9.below hb10 (by omega); have B10 := B9.below hb10 z3; have z4 := C10.lt; clear C9 A9 B9 hb10))
    | (at_make; refine wpList_make_own _ rfl _ (.tmp 101) 28 rfl w10.heap.size 32 i0 _ 3 Try.underlying28 hi0 hz0 hz1 .i64 .i64 _ (la + lb + 1) rfl rfl (by omega) (bytes_le hz2 (by omega)) (le_max (by omega)) (Nat.le_refl _) ?_; intro w11 hown11 hgrow11; obtain ⟨D11, hb11⟩ := Rs.own_made (T := T) hown11 hgrow11; clear hown11 hgrow11; have hb11' := bx hb10' hb11 (by omega); have A11 := A10.below hb11 (by omega); have B11 := B10.below hb11 (by omega); have C11 := C10.below hb11 z4; clear A10 B10 C10 hb11)
    | (go_at_call_of 7 w10.heap.size; go_at_call_of 7 ao; go_must (refine (app_zero T _ _ _ _ _ _ D11 (hT.toB (below_box hb11') (by omega)) (by omega) (by omega)).mono ?_; rintro e w12 ⟨rfl, D12, hb12⟩; have hb12' := bx hb11' hb12 (by omega); have A12 := A11.below hb12 (by omega); have B12 := B11.below hb12 (by omega); have C12 := C11.below hb12 z4; clear A11 B11 C11 D11 hb12; obtain ⟨d0, d1, d2⟩ := box_cells hb12'))
    | (go_at_call 8; go_must (refine (one_any _ _ _ w12).mono ?_; rintro e w13 ⟨rfl, hb13⟩))
    | (at_builtin; go_must (refine wpList_append_fits _ rfl (.tmp 105) (.tmp 108) 28 rfl w10.heap.size 32 i0 3 Try.underlying28 hi0 hz1 w10.heap.size la (la + lb + 1) _ rfl (World.ownsRow.alloc (D12.below hb13 D12.lt) _) ⟨w13.heap.size, 0, none⟩ 1 1 [.string r, .string s, .string d] rfl rfl (new_cells _ _ _ _) (one_cells _ _ _) (by omega) ?_; intro w14 hown14 hgrow14; have D14 : (T.snoc la r s d).Own w14 w10.heap.size (la + 1) (la + lb + 1) := Rs.Own.grow hown14 (snoc_old T la r s d) (if_neg (Nat.lt_irrefl _)) (if_neg (Nat.lt_irrefl _)) (if_neg (Nat.lt_irrefl _)); have hb14' := app_step hb12' hb13 hgrow14 (by omega); have A14 := keep_step A12 hb13 hgrow14 (by omega); have B14 := keep_step B12 hb13 hgrow14 (by omega); have C14 := keep_step C12 hb13 hgrow14 (by omega); clear A12 B12 C12 D12 hown14 hgrow14 hb13 d0 d1 d2))
    | (go_at_call_of 7 w10.heap.size; go_at_call_of 7 bo; go_must (refine (app_any (T.snoc la r s d) X _ _ _ _ _ _ _ D14 (hX.toB (below_box hb14') (by omega)) (by omega) (by omega)).mono ?_; rintro e w15 ⟨rfl, D15, hb15⟩; have hb15' := bx hb14' hb15 (by omega); have A15 := A14.below hb15 (by omega); have B15 := B14.below hb15 (by omega); have C15 := C14.below hb15 z4; clear A14 B14 C14 D14 hb15; have hL1 := join_law T X la lb; have hL2 := insert_law T X la lb r s d))
    | (go_at_call_of 9 w3.heap.size; go_must (refine (failed_any _ _ _ _ T _ (by omega) (fun _ => A15.lt) A15.at).mono ?_; rintro e w16 ⟨rfl, hb16⟩; have hb16' := box_chain hb15' hb16; have B16 := B15.below hb16 B15.lt; have C16 := C15.below hb16 C15.lt; have D16 := D15.below hb16 D15.lt; clear A15 B15 C15 D15 hb16))
    | (go_at_call_of 9 w5.heap.size; go_must (refine (failed_any _ _ _ _ X _ (by omega) (fun _ => B16.lt) B16.at).mono ?_; rintro e w17 ⟨rfl, hb17⟩; have hb17' := box_chain hb16' hb17; have C17 := C16.below hb17 C16.lt; have D17 := D16.below hb17 D16.lt; clear B16 C16 D16 hb17))
    | (go_at_call_of 9 w7.heap.size; go_must (refine (failed_any _ _ _ _ (T.app la X) _ (by omega) (fun _ => C17.lt) C17.at).mono ?_; rintro e w18 ⟨rfl, hb18⟩; have hb18' := box_chain hb17' hb18; have D18 := D17.below hb18 D17.lt; clear C17 D17 hb18))
    | (go_at_call_of 9 w10.heap.size; go_must (refine (failed_any _ _ _ _ ((T.snoc la r s d).app (la + 1) X) _ (by omega) (fun _ => D18.lt) D18.at).mono ?_; rintro e w19 ⟨rfl, hb19⟩; have hb19' := box_chain hb18' hb19; clear D18 hb19; obtain ⟨e0, e1, e2⟩ := box_cells hb19')))
  all_goals go_ret
  all_goals first
    | exact ⟨rfl, below_box hb19'⟩
    | exact ⟨rfl, below_box hb3'⟩
    | exact ⟨rfl, below_box hb2'⟩
    | exact ⟨rfl, below_box hb1'⟩

set_option maxRecDepth 100000 in
set_option maxHeartbeats 1000000 in
theorem join_big (ao bo : Option Addr) (la ca lb cb : Nat) (T X : Rs) (r s d : ByteArray) (w : World) (hma : la ≤ 9223372036854775807) (hmb : lb ≤ 9223372036854775807) (hbig : (65536 : Int) < (la : Int) ∨ (65536 : Int) < (lb : Int)) (hT : T.In w ao la) (hX : X.In w bo lb) :
    Calls Try.prog 3 #[.slice ao la ca, .agg #[.string r, .string s, .string d], .slice bo lb cb] w fun e w' => e = .returned (.bool true) ∧ Below w.heap.size w w' := by
  by_cases h1 : (65536 : Int) < (la : Int)
  · go_enter Try.func3, Try.ntmps3
    go_wp2_with (first
      | (go_at_call 5; go_must (refine (small5_any _ _ _ _ _ _ T X _ _ _ _ hma hmb (hT.below ((Below.refl _ _).alloc (Nat.le_refl _) _)) (hX.below ((Below.refl _ _).alloc (Nat.le_refl _) _))).mono ?_; rintro e w1 ⟨⟨o, rfl, ho⟩, hb1⟩; cases o; all_goals (have hb1' := box_first hb1; clear hb1))))
    all_goals go_ret
    all_goals exact ⟨rfl, below_box hb1'⟩
  · have h2 : (65536 : Int) < (lb : Int) := by omega
    go_enter Try.func3, Try.ntmps3
    go_wp2_with (first
      | (go_at_call 5; go_must (refine (small5_any _ _ _ _ _ _ T X _ _ _ _ hma hmb (hT.below ((Below.refl _ _).alloc (Nat.le_refl _) _)) (hX.below ((Below.refl _ _).alloc (Nat.le_refl _) _))).mono ?_; rintro e w1 ⟨⟨o, rfl, ho⟩, hb1⟩; cases o; all_goals (have hb1' := box_first hb1; clear hb1))))
    all_goals go_ret
    all_goals exact ⟨rfl, below_box hb1'⟩
end Go.Proofs.Qxb6628232a
