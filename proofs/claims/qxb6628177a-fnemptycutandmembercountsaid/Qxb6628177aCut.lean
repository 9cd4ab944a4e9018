import Derived.Test.Qxb6628177aCount
namespace Go.Proofs.Qxb6628177a
open Go.ChangeShapes Go.WideShapes Go.ChangeAt Go.RowKit

set_option maxHeartbeats 400000 in
theorem cut_out (ao : Option Addr) (len cap : Nat) (i : Int) (_hm : len ≤ 9223372036854775807) (w : World) (h : 131072 < len ∨ i < 0 ∨ (len : Int) < i) :
    Calls Try.prog 3 #[.slice ao len cap, .int .i64 i] w fun e w' => e = .returned (.bool true) ∧ Below w.heap.size w w' := by
  by_cases h1 : 1048576 < len
  · have h1' : (1048576 : Int) < (len : Int) := by omega
    go_enter Try.func3, Try.ntmps3
    go_wp2
    go_ret
    exact ⟨rfl, Below.refl _ _⟩
  · have h1' : (len : Int) ≤ (1048576 : Int) := by omega
    by_cases h2 : 131072 < len
    · have h2' : (131072 : Int) < (len : Int) := by omega
      go_enter Try.func3, Try.ntmps3
      go_wp2
      go_ret
      exact ⟨rfl, Below.refl _ _⟩
    · have h2' : (len : Int) ≤ (131072 : Int) := by omega
      by_cases h3 : i < 0
      · go_enter Try.func3, Try.ntmps3
        go_wp2
        go_ret
        exact ⟨rfl, Below.refl _ _⟩
      · have h4 : (len : Int) < i := by omega
        go_enter Try.func3, Try.ntmps3
        go_wp2
        go_ret
        exact ⟨rfl, Below.refl _ _⟩

theorem cut_lawB (f : Nat → Int) (n k : Nat) (hk : k ≤ n) : emptyB f n = (emptyB f k && emptyB (fun q => f (k + q)) (n - k)) := by
  unfold emptyB
  rw [Bool.eq_iff_iff, Bool.and_eq_true, allZ_range, allZ_range, allZ_range]
  constructor
  · intro h
    exact ⟨fun q hq => h q (by omega), fun q hq => h (k + q) (by omega)⟩
  · rintro ⟨h1, h2⟩ q hq
    by_cases h : q < k
    · exact h1 q h
    · have := h2 (q - k) (by omega)
      rwa [show k + (q - k) = q by omega] at this

theorem cnt_lawB (f : Nat → Int) (n : Nat) (hf : ∀ q, q < n → 0 ≤ f q ∧ f q < 18446744073709551616) : (((cnt f n : Nat) : Int) == 0) = emptyB f n := by
  have h := cnt_zero f n hf
  unfold emptyB
  rw [Bool.eq_iff_iff, allZ_range, ← h]
  simp

theorem left_reads {w : World} {B n k : Nat} {f : Nat → Int} (h : Own w B n f) (hk : k ≤ n) : Reads w (some ⟨B, 0, none⟩) k ((List.range k).map f) := by
  refine ⟨by simp, fun _ => ⟨B, 0, rfl, fun i hi => ?_⟩⟩
  rw [Nat.zero_add, h.cell i (by omega)]
  simp [List.getD, hi]

theorem right_reads {w : World} {B n k : Nat} {f : Nat → Int} {ao : Option Addr} (h : Own w B n f) (hao : k < n → ao = some ⟨B, k, none⟩) : Reads w ao (n - k) ((List.range (n - k)).map fun q => f (k + q)) := by
  refine ⟨by simp, fun h0 => ⟨B, k, hao (by omega), fun i hi => ?_⟩⟩
  rw [h.cell (k + i) (by omega)]
  simp [List.getD, hi]

set_option maxHeartbeats 1000000 in
theorem cut_in (x : Addr) (len cap k : Nat) (f : Nat → Int) (w : World) (hm : len ≤ 131072) (hk : k ≤ len)
    (hf : Hid (∀ q, q < len → 0 ≤ f q ∧ f q < 18446744073709551616)) (hc : Hid (∀ q, q < len → w.cell? (x.add q) = some (.int .u64 (f q)))) :
    Calls Try.prog 3 #[.slice (some x) len cap, .int .i64 (k : Int)] w fun e w' => e = .returned (.bool true) ∧ Below w.heap.size w w' := by
  obtain ⟨i0, hi0, hz0, hz1, hz2⟩ := info_parts Try.info27
  have hnn := fun wx => run_neq_slice_nil_any (P := Try.prog) wx 22 27 (some x) len cap 0 0 Try.underlying22
  have hL := cut_lawB f len k hk
  have hC := cnt_lawB f len hf.out
  rw [hL] at hC
  go_enter Try.func3, Try.ntmps3
  go_wp2_with (first
    | (at_make; refine wpList_make_full _ rfl (.tmp 28) (.tmp 28) 22 rfl w.heap.size 27 i0 (.int .u64 0) 1 Try.underlying22 hi0 hz0 hz1 .i64 .i64 _ _ len rfl rfl rfl rfl (bytes_le hz2 (by omega)) (le_max (by omega)) (Nat.le_refl _) ?_; intro w1 hown1 hgrow1; obtain ⟨w2, hcp, HO2, hb2⟩ := copied hc hown1 hgrow1 (le_max (by omega)) cap; clear hown1 hgrow1)
    | (go_at_call_of 6 (len - k); go_must (refine (empty_own _ _ _ (fun q => f (k + q)) _ (by omega) (right_reads HO2 ?_)).mono ?_; (focus (intro hkn; rw [if_neg (by omega)])); rintro e w6 ⟨rfl, rfl⟩))
    | (go_at_call_of 6 k; go_must (refine (empty_own _ _ _ f _ (by omega) (left_reads HO2 hk)).mono ?_; rintro e w6 ⟨rfl, rfl⟩))
    | (go_at_call 6; go_must (refine (empty_own _ _ _ f _ (by omega) HO2.reads).mono ?_; rintro e w6 ⟨rfl, rfl⟩))
    | (go_at_call 7; go_must (refine (count_some _ _ _ _ f _ hm hf (fun i hi => by rw [Nat.zero_add]; exact HO2.cell i hi)).mono ?_; rintro e w6 ⟨rfl, rfl⟩))
    | (go_at_call 5; go_in))
  all_goals
    go_ret
    exact ⟨rfl, hb2⟩

set_option maxHeartbeats 1000000 in
theorem cut_nil (w : World) :
    Calls Try.prog 3 #[.slice none 0 0, .int .i64 0] w fun e w' => e = .returned (.bool true) ∧ Below w.heap.size w w' := by
  have hnn := fun wx => run_neq_slice_nil_any (P := Try.prog) wx 22 27 none 0 0 0 0 Try.underlying22
  go_enter Try.func3, Try.ntmps3
  go_wp2_with (first
    | (go_at_call 6; go_must (refine (empty_nil _ _ _).mono ?_; rintro e w6 ⟨rfl, rfl⟩))
    | (go_at_call 7; go_must (refine (count_nil _ _ _).mono ?_; rintro e w6 ⟨rfl, rfl⟩))
    | (go_at_call 5; go_in))
  all_goals
    go_ret
    exact ⟨rfl, Below.refl _ _⟩
end Go.Proofs.Qxb6628177a
