import Derived.Test.Qxb6628232aSmall4
import Derived.Test.Qxb6628232aOwn
namespace Go.Proofs.Qxb6628232a
open Go.ChangeShapes Go.WideShapes Go.ChangeAt Go.RowKit

theorem le_max {n : Nat} (h : n ≤ 1048576) : n ≤ maxLen := by unfold maxLen; omega
theorem bytes_le {i0 : TypeInfo} (hz2 : i0.bytes = 48) {n : Nat} (h : n ≤ 1048576) : i0.bytes * n ≤ 281474976710656 := by rw [hz2]; omega

theorem box_chain {w w1 w2 : World} {r s d : ByteArray} (h1 : Below (w.heap.size + 1) (w.alloc (boxOf r s d)) w1) (h2 : Below w1.heap.size w1 w2) : Below (w.heap.size + 1) (w.alloc (boxOf r s d)) w2 := by
  have := h1.size
  simp at this
  exact h1.trans (h2.mono this)

theorem box_first {w w1 : World} {r s d : ByteArray} (h1 : Below (w.alloc (boxOf r s d)).heap.size (w.alloc (boxOf r s d)) w1) : Below (w.heap.size + 1) (w.alloc (boxOf r s d)) w1 := by simpa using h1

/-- Element i overwritten; element i deleted. -/
def Rs.over (T : Rs) (i : Nat) (r s d : ByteArray) : Rs := ⟨fun j => if j = i then r else T.r j, fun j => if j = i then s else T.s j, fun j => if j = i then d else T.d j⟩
def Rs.del (T : Rs) (i : Nat) : Rs := ⟨fun j => if j < i then T.r j else T.r (j + 1), fun j => if j < i then T.s j else T.s (j + 1), fun j => if j < i then T.d j else T.d (j + 1)⟩

theorem over_law (T : Rs) (n i : Nat) (r s d : ByteArray) (h : i < n) : (T.over i r s d).failB n = (isFail s || (T.del i).failB (n - 1)) := by
  rw [Bool.eq_iff_iff, Bool.or_eq_true, Rs.failB_iff, Rs.failB_iff]
  constructor
  · rintro ⟨j, hj, h1⟩
    simp only [Rs.over] at h1
    by_cases e : j = i
    · rw [if_pos e] at h1; exact .inl h1
    · rw [if_neg e] at h1
      right
      by_cases l : j < i
      · exact ⟨j, by omega, by simp only [Rs.del]; rw [if_pos l]; exact h1⟩
      · exact ⟨j - 1, by omega, by simp only [Rs.del]; rw [if_neg (by omega), show j - 1 + 1 = j by omega]; exact h1⟩
  · rintro (h1 | ⟨j, hj, h1⟩)
    · exact ⟨i, h, by simp only [Rs.over]; rw [if_pos trivial]; exact h1⟩
    · simp only [Rs.del] at h1
      by_cases l : j < i
      · rw [if_pos l] at h1; exact ⟨j, by omega, by simp only [Rs.over]; rw [if_neg (by omega)]; exact h1⟩
      · rw [if_neg l] at h1; exact ⟨j + 1, by omega, by simp only [Rs.over]; rw [if_neg (by omega)]; exact h1⟩

theorem le_size {w wr : World} {r s d : ByteArray} (h : Below (w.heap.size + 1) (w.alloc (boxOf r s d)) wr) : w.heap.size + 1 ≤ wr.heap.size := by have := h.size; simpa using this

theorem app_step {w wr w5 w6 : World} {o : Obj} {r s d : ByteArray} {g : Nat} (hnx : Below (w.heap.size + 1) (w.alloc (boxOf r s d)) wr) (hb5 : Below wr.heap.size wr w5) (hg : (w5.alloc o).grownBy w6 (some g)) (hgB : w.heap.size + 1 ≤ g) :
    Below (w.heap.size + 1) (w.alloc (boxOf r s d)) w6 := by
  have h5 := box_chain hnx hb5
  have := le_size h5
  exact below_grown (h5.alloc this _) hg (by simp; omega) hgB

theorem keep_step {V : Rs} {wr w5 w6 : World} {o : Obj} {g g2 m cap : Nat} (HV : V.Own wr g2 m cap) (hb5 : Below wr.heap.size wr w5) (hg : (w5.alloc o).grownBy w6 (some g)) (hne : g ≠ g2) : V.Own w6 g2 m cap :=
  ((HV.below hb5 HV.lt).below ((Below.refl _ _).alloc (Nat.le_refl _) _) (Nat.lt_of_lt_of_le HV.lt hb5.size)).kept hg (by simpa using hne)

theorem del_at (T : Rs) {i k m : Nat} (hki : ¬ k = i) (hm : m = if k ≤ i then k else k - 1) : (T.del i).r m = T.r k ∧ (T.del i).s m = T.s k ∧ (T.del i).d m = T.d k := by
  simp only [Rs.del]
  by_cases h : k ≤ i
  · rw [if_pos h] at hm; subst hm
    rw [if_pos (by omega), if_pos (by omega), if_pos (by omega)]; exact ⟨rfl, rfl, rfl⟩
  · rw [if_neg h] at hm
    have e : m + 1 = k := by omega
    rw [if_neg (by omega), if_neg (by omega), if_neg (by omega), e]; exact ⟨rfl, rfl, rfl⟩

theorem del_next {i k m : Nat} (hki : ¬ k = i) (hm : m = if k ≤ i then k else k - 1) : Hid (m + 1 = if k + 1 ≤ i then k + 1 else k + 1 - 1) := by
  show m + 1 = _
  by_cases h : k ≤ i
  · rw [if_pos h] at hm; rw [if_pos (by omega)]; omega
  · rw [if_neg h] at hm; rw [if_neg (by omega)]; omega

set_option maxHeartbeats 1000000 in
theorem over_in (ao : Option Addr) (len cap : Nat) (T : Rs) (i : Nat) (r s d : ByteArray) (w : World) (hm : len ≤ 65536) (hi : i < len) (hT : T.In w ao len) :
    Calls Try.prog 4 #[.slice ao len cap, .int .i64 (i : Int), .agg #[.string r, .string s, .string d]] w fun e w' => e = .returned (.bool true) ∧ Below w.heap.size w w' := by
  obtain ⟨i0, hi0, hz0, hz1, hz2⟩ := info_parts Try.info32
  go_enter Try.func4, Try.ntmps4
  go_wp2_with (first
    | (go_at_call 10; go_must (refine (small_any _ _ _ T _ _ _ _ _ (by omega) (hT.below ((Below.refl _ _).alloc (Nat.le_refl _) _))).mono ?_; rintro e w1 ⟨⟨o, rfl, ho⟩, hb1⟩; cases o; all_goals (have hb1' := box_first hb1; clear hb1; obtain ⟨c0, c1, c2⟩ := box_cells hb1'; try (obtain ⟨hlm, hsm, hr, hs, hd⟩ := ho rfl))))
    | (go_at_call 6; go_must (refine (bytes_any _ _ _ T _ _ (by omega) (hT.below (below_box hb1')) hsm (by omega) (by omega)).mono ?_; rintro e w2 ⟨⟨t', o2, rfl, _⟩, hb2⟩; cases o2; all_goals (have hb2' := box_chain hb1' hb2; clear hb2; obtain ⟨d0, d1, d2⟩ := box_cells hb2')))
    | (at_make; refine wpList_make_own _ rfl _ (.tmp 70) 28 rfl w2.heap.size 32 i0 _ 3 Try.underlying28 hi0 hz0 hz1 .i64 .i64 _ len rfl rfl rfl (bytes_le hz2 (by omega)) (le_max (by omega)) (Nat.le_refl _) ?_; intro w3 hown3 hgrow3; obtain ⟨HU, hb3⟩ := Rs.own_made (T := T.over i r s d) hown3 hgrow3; clear hown3 hgrow3)
    | (at_make; refine wpList_make_own _ rfl _ (.tmp 73) 28 rfl w3.heap.size 32 i0 _ 3 Try.underlying28 hi0 hz0 hz1 .i64 .i64 _ len rfl rfl rfl (bytes_le hz2 (by omega)) (le_max (by omega)) (Nat.le_refl _) ?_; intro w4 hown4 hgrow4; obtain ⟨HV, hb4⟩ := Rs.own_made (T := T.del i) hown4 hgrow4; clear hown4 hgrow4))
  · go_ret
    exact ⟨rfl, below_box hb1'⟩
  · go_ret
    exact ⟨rfl, below_box hb1'⟩
  · have hg1 : w2.heap.size < w3.heap.size := HU.lt
    have hg2 : w3.heap.size < w4.heap.size := HV.lt
    have hb4' := box_chain (box_chain hb2' hb3) hb4
    have hsz : w.heap.size + 1 ≤ w2.heap.size := by have := hb2'.size; simpa using this
    have HU4 := HU.below hb4 hg1
    clear HU hb3 hb4 hb2' hb1' c0 c1 c2 d0 d1 d2 hlm hsm hr hs hd
    go_loopw [10, 11, 12] (fun rep del j wr => ∃ k m : Nat, k ≤ len ∧ Hid (m = if k ≤ i then k else k - 1) ∧ j = .int .i64 k ∧ rep = .slice (some ⟨w2.heap.size, 0, none⟩) k len ∧ del = .slice (some ⟨w3.heap.size, 0, none⟩) m len ∧
        (T.over i r s d).Own wr w2.heap.size k len ∧ (T.del i).Own wr w3.heap.size m len ∧ Below (w.heap.size + 1) (w.alloc (boxOf r s d)) wr) (fun _ _ j _ => len - (intOf j).toNat)
    case atStart => exact ⟨0, 0, Nat.zero_le _, by show 0 = _; simp, rfl, rfl, rfl, HU4, HV, hb4'⟩
    case round =>
      clear HU4 HV hb4'
      obtain ⟨k, m, hk, hmk, rfl, rfl, rfl, HU, HV, hnx⟩ := hrel
      by_cases hlt : k < len
      · by_cases hki : k = i
        · have hkb : ((k : Int) == (i : Int)) = true := by simp; omega
          have HK : Hid (k = i) := hki
          clear hki
          obtain ⟨c0, c1, c2⟩ := box_cells hnx
          go_wp2_with (first
            | (go_at_call 8; go_must (refine (one_any _ _ _ _).mono ?_; rintro e w5 ⟨rfl, hb5⟩))
            | (at_builtin; go_must (refine wpList_append_fits _ rfl (.tmp 84) (.tmp 87) 28 rfl w2.heap.size 32 i0 3 Try.underlying28 hi0 hz1 w2.heap.size k len _ rfl (World.ownsRow.alloc (HU.below hb5 HU.lt) _) ⟨w5.heap.size, 0, none⟩ 1 1 [.string r, .string s, .string d] rfl rfl (new_cells _ _ _ _) (one_cells _ _ _) (by omega) ?_; intro w6 hown6 hgrow6)))
          have HU6 : (T.over i r s d).Own w6 w2.heap.size (k + 1) len := Rs.Own.grow hown6 (fun _ _ => ⟨rfl, rfl, rfl⟩) (if_pos HK.out) (if_pos HK.out) (if_pos HK.out)
          have HV6 := keep_step HV hb5 hgrow6 (by omega)
          have hb6 := app_step hnx hb5 hgrow6 hsz
          clear hown6 hgrow6 hb5 HU HV
          go_wp2
          go_roundw
          case rel => exact ⟨k + 1, m, by omega, by have := hmk.out; have := HK.out; show m = _; rw [if_neg (by omega)]; rw [if_pos (by omega)] at *; omega, by go_num, rfl, rfl, HU6, HV6, hb6⟩
          case measure => simp [intOf]; omega
        · have hkb : ((k : Int) == (i : Int)) = false := by simp; omega
          obtain ⟨b, off, rfl, hb, hA⟩ := hT (by omega)
          obtain ⟨c0, c1, c2⟩ := (hA.below (below_box hnx) hb) k hlt
          have hml : m < len := by have := hmk.out; by_cases h : k ≤ i <;> simp [h] at this <;> omega
          go_wp2_with (first
            | (at_builtin; refine wpList_append_fits _ rfl (.tmp 89) (.tmp 95) 28 rfl w2.heap.size 32 i0 3 Try.underlying28 hi0 hz1 w2.heap.size k len _ rfl (World.ownsRow.alloc (HU.below hb5 HU.lt) _) ⟨w5.heap.size, 0, none⟩ 1 1 [.string (T.r k), .string (T.s k), .string (T.d k)] rfl rfl (new_cells _ _ _ _) (one_cells _ _ _) (by omega) ?_; intro w6 hown6 hgrow6; have HV6 := keep_step HV hb5 hgrow6 (by omega); have hb6 := app_step hnx hb5 hgrow6 hsz; obtain ⟨e0, e1, e2⟩ := (hA.below (below_box hb6) hb) k hlt)
            | (at_builtin; refine wpList_append_fits _ rfl (.tmp 97) (.tmp 103) 28 rfl w3.heap.size 32 i0 3 Try.underlying28 hi0 hz1 w3.heap.size m len _ rfl (World.ownsRow.alloc (HV6.below hb7 HV6.lt) _) ⟨w7.heap.size, 0, none⟩ 1 1 [.string (T.r k), .string (T.s k), .string (T.d k)] rfl rfl (new_cells _ _ _ _) (one_cells _ _ _) (by omega) ?_; intro w8 hown8 hgrow8)
            | (go_at_call 8; refine (one_any _ _ _ wr).mono ?_; rintro e w5 ⟨rfl, hb5⟩)
            | (go_at_call 8; refine (one_any _ _ _ w6).mono ?_; rintro e w7 ⟨rfl, hb7⟩))
          have HU6 : (T.over i r s d).Own w6 w2.heap.size (k + 1) len := Rs.Own.grow hown6 (fun _ _ => ⟨rfl, rfl, rfl⟩) (if_neg hki) (if_neg hki) (if_neg hki)
          have HU8 := keep_step HU6 hb7 hgrow8 (by omega)
          have HV8 : (T.del i).Own w8 w3.heap.size (m + 1) len := Rs.Own.grow hown8 (fun _ _ => ⟨rfl, rfl, rfl⟩) (del_at T hki hmk.out).1 (del_at T hki hmk.out).2.1 (del_at T hki hmk.out).2.2
          have hb8 := app_step hb6 hb7 hgrow8 (by omega)
          go_roundw
          case rel => exact ⟨k + 1, m + 1, by omega, del_next hki hmk.out, by go_num, rfl, rfl, HU8, HV8, hb8⟩
          case measure => simp [intOf]; omega
      · have hkl : Hid (k = len) := by show k = len; omega
        have hml : Hid (m = len - 1) := by have := hmk.out; rw [if_neg (by omega)] at this; show m = len - 1; omega
        have hL : (T.over i r s d).failB k = ((s.toList == [102, 97, 105, 108]) || (T.del i).failB m) := by rw [hkl.out, hml.out]; exact over_law T len i r s d hi
        have hm2 : m ≤ 65536 := by have := hml.out; omega
        go_wp2_with (first
          | (go_at_call_of 9 w2.heap.size; go_must (refine (failed_any _ _ _ _ _ _ (by omega) (fun _ => HU.lt) HU.at).mono ?_; rintro e w5 ⟨rfl, hb5⟩; have hb5' := box_chain hnx hb5))
          | (go_at_call_of 9 w3.heap.size; go_must (refine (failed_any _ _ _ _ _ _ (by omega) (fun _ => (HV.below hb5 HV.lt).lt) (HV.below hb5 HV.lt).at).mono ?_; rintro e w6 ⟨rfl, hb6⟩; have hb6' := box_chain hb5' hb6; obtain ⟨c0, c1, c2⟩ := box_cells hb6')))
        all_goals
          go_ret
          exact ⟨rfl, below_box hb6'⟩
  · go_ret
    exact ⟨rfl, below_box hb2'⟩

set_option maxHeartbeats 1000000 in
theorem over_big (ao : Option Addr) (len cap : Nat) (T : Rs) (i : Int) (r s d : ByteArray) (w : World) (hmax : len ≤ 9223372036854775807) (hm : (65536 : Int) < (len : Int)) (hT : T.In w ao len) :
    Calls Try.prog 4 #[.slice ao len cap, .int .i64 i, .agg #[.string r, .string s, .string d]] w fun e w' => e = .returned (.bool true) ∧ Below w.heap.size w w' := by
  go_enter Try.func4, Try.ntmps4
  go_wp2_with (first
    | (go_at_call 10; go_must (refine (small_any _ _ _ T _ _ _ _ _ hmax (hT.below ((Below.refl _ _).alloc (Nat.le_refl _) _))).mono ?_; rintro e w1 ⟨⟨o, rfl, ho⟩, hb1⟩; cases o; all_goals (have hb1' := box_first hb1; clear hb1; try (obtain ⟨hlm, hsm, hr, hs, hd⟩ := ho rfl)))))
  all_goals
    go_ret
    exact ⟨rfl, below_box hb1'⟩

set_option maxHeartbeats 1000000 in
theorem over_out (ao : Option Addr) (len cap : Nat) (T : Rs) (i : Int) (r s d : ByteArray) (w : World) (hm : len ≤ 65536) (hi : i < 0 ∨ (len : Int) ≤ i) (hT : T.In w ao len) :
    Calls Try.prog 4 #[.slice ao len cap, .int .i64 i, .agg #[.string r, .string s, .string d]] w fun e w' => e = .returned (.bool true) ∧ Below w.heap.size w w' := by
  go_enter Try.func4, Try.ntmps4
  go_wp2_with (first
    | (go_at_call 10; go_must (refine (small_any _ _ _ T _ _ _ _ _ (by omega) (hT.below ((Below.refl _ _).alloc (Nat.le_refl _) _))).mono ?_; rintro e w1 ⟨⟨o, rfl, ho⟩, hb1⟩; cases o; all_goals (have hb1' := box_first hb1; clear hb1; obtain ⟨c0, c1, c2⟩ := box_cells hb1'; try (obtain ⟨hlm, hsm, hr, hs, hd⟩ := ho rfl))))
    | (go_at_call 6; go_must (refine (bytes_any _ _ _ T _ _ (by omega) (hT.below (below_box hb1')) hsm (by omega) (by omega)).mono ?_; rintro e w2 ⟨⟨t', o2, rfl, _⟩, hb2⟩; cases o2; all_goals (have hb2' := box_chain hb1' hb2; clear hb2; obtain ⟨d0, d1, d2⟩ := box_cells hb2'))))
  all_goals
    go_ret
    first
      | exact ⟨rfl, below_box hb2'⟩
      | exact ⟨rfl, below_box hb1'⟩
end Go.Proofs.Qxb6628232a
