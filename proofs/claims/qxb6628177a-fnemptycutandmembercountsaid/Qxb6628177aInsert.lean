import Derived.Test.Qxb6628177aOwn
import Derived.Deep.RegionWith
namespace Go.Proofs.Qxb6628177a
open Go.ChangeShapes Go.WideShapes Go.ChangeAt Go.RowKit

/-! ### The rows -/
def T1 (f : Nat → Int) (k q : Nat) : Int := if q < k then f q else 0
def T2 (f : Nat → Int) (i : Nat) (v : Int) (j q : Nat) : Int := if q < i then f q else if q = i then v else if q ≤ j then f (q - 1) else 0

theorem T1_zero (f : Nat → Int) (n : Nat) : row (T1 f 0) n = row (fun _ => 0) n := by
  unfold row T1; simp
theorem T1_set (f : Nat → Int) (n k : Nat) : (row (T1 f k) n).set k (.int .u64 (f k)) = row (T1 f (k + 1)) n := by
  refine row_set _ _ n k _ fun q _ => ?_
  unfold T1
  by_cases h : q = k
  · subst h; rw [if_pos (by omega), if_pos rfl]
  · rw [if_neg h]
    by_cases h' : q < k
    · rw [if_pos h', if_pos (by omega)]
    · rw [if_neg h', if_neg (by omega)]
theorem T2_put (f : Nat → Int) (n i : Nat) (v : Int) : (row (T1 f i) n).set i (.int .u64 v) = row (T2 f i v i) n := by
  refine row_set _ _ n i _ fun q _ => ?_
  unfold T1 T2
  by_cases h : q = i
  · subst h; rw [if_neg (by omega), if_pos rfl, if_pos rfl]
  · rw [if_neg h, if_neg h]
    by_cases h' : q < i
    · rw [if_pos h', if_pos h']
    · rw [if_neg h', if_neg h', if_neg (by omega)]
theorem T2_set (f : Nat → Int) (n i : Nat) (v : Int) (j : Nat) (hj : i ≤ j) : (row (T2 f i v j) n).set (j + 1) (.int .u64 (f j)) = row (T2 f i v (j + 1)) n := by
  refine row_set _ _ n (j + 1) _ fun q _ => ?_
  unfold T2
  by_cases h : q = j + 1
  · subst h; rw [if_pos rfl, if_neg (by omega), if_neg (by omega), if_pos (by omega)]; rfl
  · rw [if_neg h]
    by_cases h' : q < i
    · rw [if_pos h', if_pos h']
    · rw [if_neg h', if_neg h']
      by_cases h'' : q = i
      · rw [if_pos h'', if_pos h'']
      · rw [if_neg h'', if_neg h'']
        by_cases h3 : q ≤ j
        · rw [if_pos h3, if_pos (by omega)]
        · rw [if_neg h3, if_neg (by omega)]

theorem insert_law (f : Nat → Int) (n i : Nat) (v : Int) (hi : i ≤ n) :
    allZ ((List.range (n + 1)).map (T2 f i v n)) = (allZ ((List.range n).map f) && (v == 0)) := by
  rw [Bool.eq_iff_iff, Bool.and_eq_true, allZ_range, allZ_range]
  constructor
  · intro h
    refine ⟨fun q hq => ?_, ?_⟩
    · by_cases h' : q < i
      · have := h q (by omega); unfold T2 at this; rwa [if_pos h'] at this
      · have := h (q + 1) (by omega); unfold T2 at this; rwa [if_neg (by omega), if_neg (by omega), if_pos (by omega), Nat.add_sub_cancel] at this
    · have := h i (by omega); unfold T2 at this; rw [if_neg (by omega), if_pos rfl] at this; simpa using this
  · rintro ⟨h1, h2⟩ q hq
    unfold T2
    by_cases h' : q < i
    · rw [if_pos h']; exact h1 q (by omega)
    · rw [if_neg h']
      by_cases h'' : q = i
      · rw [if_pos h'']; simpa using h2
      · rw [if_neg h'', if_pos (by omega)]; exact h1 _ (by omega)

set_option maxHeartbeats 400000 in
theorem insert_out (ao : Option Addr) (len cap : Nat) (i v : Int) (_hm : len ≤ 9223372036854775807) (w : World) (h : 131072 < len ∨ i < 0 ∨ (len : Int) < i) :
    Calls Try.prog 4 #[.slice ao len cap, .int .i64 i, .int .u64 v] w fun e w' => e = .returned (.bool true) ∧ Below w.heap.size w w' := by
  by_cases h1 : 1048576 < len
  · have h1' : (1048576 : Int) < (len : Int) := by omega
    go_enter Try.func4, Try.ntmps4
    go_wp2
    go_ret
    exact ⟨rfl, Below.refl _ _⟩
  · have h1' : (len : Int) ≤ (1048576 : Int) := by omega
    by_cases h2 : 131072 < len
    · have h2' : (131072 : Int) < (len : Int) := by omega
      go_enter Try.func4, Try.ntmps4
      go_wp2
      go_ret
      exact ⟨rfl, Below.refl _ _⟩
    · have h2' : (len : Int) ≤ (131072 : Int) := by omega
      by_cases h3 : i < 0
      · go_enter Try.func4, Try.ntmps4
        go_wp2
        go_ret
        exact ⟨rfl, Below.refl _ _⟩
      · have h4 : (len : Int) < i := by omega
        go_enter Try.func4, Try.ntmps4
        go_wp2
        go_ret
        exact ⟨rfl, Below.refl _ _⟩

theorem le_max {n : Nat} (h : n ≤ 131073) : n ≤ maxLen := by unfold maxLen; omega
theorem bytes_le {i0 : TypeInfo} (hz2 : i0.bytes = 8) {n : Nat} (h : n ≤ 131073) : i0.bytes * n ≤ 281474976710656 := by rw [hz2]; omega

theorem made_owns {w w1 : World} {n : Nat} (hown : w1.ownsRow w.heap.size 27 1 (.slice (some ⟨w.heap.size, 0, none⟩) n n) n (madeCells (Value.int .u64 0).cells (n * 1)).toList) (hg : w.grownBy w1 none) :
    Own w1 w.heap.size n (fun _ => 0) ∧ Below w.heap.size w w1 := by
  rw [made_row] at hown
  exact ⟨hown, (Below.refl _ _).grown hg (Nat.le_refl _) (fun k h => by cases h)⟩

theorem made_facts {w w1 : World} {n : Nat} (hown : w1.ownsRow w.heap.size 27 1 (.slice (some ⟨w.heap.size, 0, none⟩) n n) n (madeCells (Value.int .u64 0).cells (n * 1)).toList) (hg : w.grownBy w1 none) :
    Hid (w1.heap[w.heap.size]? = some (.cells (row (fun _ => 0) n).toArray 27 (0, 0))) ∧ Below w.heap.size w w1 := by
  obtain ⟨h1, h2⟩ := made_owns hown hg
  exact ⟨heap_of_owns h1, h2⟩

theorem copy_len (f : Nat → Int) (n : Nat) : (row f n).length = Nat.min n n := by rw [row_length]; simp
theorem copy_fit (f : Nat → Int) (n : Nat) : 0 + (row f n).length ≤ (row (fun _ => 0) n).length := by rw [row_length, row_length]; omega
theorem row_one (f : Nat → Int) (n : Nat) : ∀ v ∈ row f n, v.oneCell' = true := by
  intro v hv; obtain ⟨q, _, rfl⟩ := List.mem_map.1 hv; rfl

theorem copy_src {f : Nat → Int} {n : Nat} {x : Addr} {w w1 : World} (hc : Hid (∀ q, q < n → w.cell? (x.add q) = some (.int .u64 (f q)))) (hb1 : Below w.heap.size w w1) :
    ∀ j v, (row f n)[j]? = some v → w1.cell? (x.add j) = some v := by
  intro j v hj
  have hjn : j < n := by
    have := (List.getElem?_eq_some_iff.1 hj).1
    rwa [row_length] at this
  rw [row_get f n j hjn] at hj
  rw [← hj, ← hc.out j hjn]
  exact hb1.cell (p := x.add j) (World.block_lt_of_cell? w _ (hc.out j hjn))

theorem copied {f : Nat → Int} {n : Nat} {x : Addr} {w w1 : World} (hc : Hid (∀ q, q < n → w.cell? (x.add q) = some (.int .u64 (f q))))
    (hown : w1.ownsRow w.heap.size 27 1 (.slice (some ⟨w.heap.size, 0, none⟩) n n) n (madeCells (Value.int .u64 0).cells (n * 1)).toList) (hg : w.grownBy w1 none) (hm : n ≤ maxLen) (cap : Nat) :
    ∃ w2, (Builtin.copy_ #[22, 22] 3 #[.slice (some ⟨w.heap.size, 0, none⟩) n n, .slice (some x) n cap]).run Try.prog w1 = .ok (.int .i64 (n : Int)) w2 ∧
      Own w2 w.heap.size n f ∧ Below w.heap.size w w2 := by
  obtain ⟨HG1, hb1⟩ := made_facts hown hg
  by_cases h0 : n = 0
  · subst h0
    refine ⟨w1, run_copy_none w1 22 22 3 27 _ _ 0 0 0 cap Try.underlying22 Try.size27 rfl, ?_, hb1⟩
    exact owns_of_heap (Nat.le_refl _) hm (row_length f 0) HG1.out
  · have hsrc := copy_src hc hb1
    have hrun := run_copy_row (P := Try.prog) w1 22 22 3 27 w.heap.size 0 n n x n cap _ 27 (row f n) Try.underlying22 Try.size27 HG1.out (copy_len f n) hsrc (by simpa using copy_fit f n) (row_one f n)
    rw [row_length] at hrun
    refine ⟨_, hrun, ?_, below_setRow hb1 (Nat.le_refl _) _⟩
    have h2 := setRow_heap w1 w.heap.size _ ((row (fun _ => 0) n).toArray.toList.take 0 ++ (row f n) ++ (row (fun _ => 0) n).toArray.toList.drop (0 + n)).toArray 27 _ HG1.out
    have e : (row (fun _ => 0) n).toArray.toList.take 0 ++ (row f n) ++ (row (fun _ => 0) n).toArray.toList.drop (0 + n) = row f n := by
      simp [row_length]
    rw [e] at h2
    exact owns_of_heap (Nat.le_refl _) hm (row_length f n) (by rw [e]; exact h2)

def emptyB (f : Nat → Int) (n : Nat) : Bool := allZ ((List.range n).map f)

theorem empty_own (ao : Option Addr) (n cap : Nat) (f : Nat → Int) (w : World) (hm : n ≤ 1048576) (h : Reads w ao n ((List.range n).map f)) :
    Calls Try.prog 6 #[.slice ao n cap] w fun e w' => e = .returned (.bool (emptyB f n)) ∧ w' = w := empty_any ao n cap _ w hm h

theorem insert_lawB (f : Nat → Int) (n i : Nat) (v : Int) (hi : i ≤ n) : emptyB (T2 f i v n) (n + 1) = (emptyB f n && (v == 0)) := insert_law f n i v hi
theorem zero_lawB (n : Nat) : emptyB (fun _ => 0) n = true := (allZ_range _ n).2 fun _ _ => rfl

set_option maxHeartbeats 1000000 in
theorem insert_in (x : Addr) (len cap i : Nat) (f : Nat → Int) (v : Int) (w : World) (hm : len ≤ 131072) (hi : i ≤ len)
    (hc : Hid (∀ q, q < len → w.cell? (x.add q) = some (.int .u64 (f q)))) :
    Calls Try.prog 4 #[.slice (some x) len cap, .int .i64 (i : Int), .int .u64 v] w fun e w' => e = .returned (.bool true) ∧ Below w.heap.size w w' := by
  obtain ⟨i0, hi0, hz0, hz1, hz2⟩ := info_parts Try.info27
  have hnn := fun wx => run_neq_slice_nil_any (P := Try.prog) wx 22 27 (some x) len cap 0 0 Try.underlying22
  go_enter Try.func4, Try.ntmps4
  go_wp2_with (first
    | (at_make; refine wpList_make_full _ rfl (.tmp 35) (.tmp 35) 22 rfl w.heap.size 27 i0 (.int .u64 0) 1 Try.underlying22 hi0 hz0 hz1 .i64 .i64 _ _ len rfl rfl rfl rfl (bytes_le hz2 (by omega)) (le_max (by omega)) (Nat.le_refl _) ?_; intro w1 hown1 hgrow1; obtain ⟨w2, hcp, HO2, hb2⟩ := copied hc hown1 hgrow1 (le_max (by omega)) cap; clear hown1 hgrow1)
    | (at_make; refine wpList_make_full _ rfl (.tmp 44) (.tmp 44) 22 rfl w2.heap.size 27 i0 (.int .u64 0) 1 Try.underlying22 hi0 hz0 hz1 .i64 .i64 _ _ (len + 1) rfl rfl (by omega) (by omega) (bytes_le hz2 (by omega)) (le_max (by omega)) (Nat.le_refl _) ?_; intro w3 hown3 hgrow3; obtain ⟨HO3, hb3⟩ := made_owns hown3 hgrow3; clear hown3 hgrow3)
    | (go_at_call 8; go_in))
  have hB0 : w.heap.size < w2.heap.size := HO2.lt
  clear hcp hnn
  go_loopw [10] (fun j wr => ∃ k : Nat, k ≤ i ∧ j = .int .i64 k ∧ Own wr w2.heap.size (len + 1) (T1 f k) ∧ Below w2.heap.size w2 wr) (fun j _ => i - (intOf j).toNat)
  case atStart => exact ⟨0, Nat.zero_le _, rfl, by unfold Own; rw [T1_zero]; exact HO3, hb3⟩
  case round =>
    clear HO3 hb3
    obtain ⟨k, hk, rfl, HOW, hnx⟩ := hrel
    by_cases hlt : k < i
    · have hs : wr.cell? ⟨w.heap.size, k, none⟩ = some (.int .u64 (f k)) := (hnx.cell (p := ⟨w.heap.size, k, none⟩) hB0).trans (HO2.cell k (by omega))
      have hfr := HOW.frozen k
      have hce := HOW.cell k (by omega)
      go_wp2
      go_roundw
      case rel => exact ⟨k + 1, by omega, by go_num, HOW.put (T1_set f _ k), hnx.setCell (by simp) _⟩
      case measure => simp [intOf]; omega
    · have hki : Hid (k = i) := by show k = i; omega
      have hfr := HOW.frozen i
      have hce := HOW.cell i (by omega)
      have hge : i ≤ k := by omega
      have HO4 : Own (wr.setCell ⟨w2.heap.size, i, none⟩ (.int .u64 v)) w2.heap.size (len + 1) (T2 f i v i) := HOW.put (by rw [hki.out]; exact T2_put f _ i v)
      have hb4 : Below w2.heap.size w2 (wr.setCell ⟨w2.heap.size, i, none⟩ (.int .u64 v)) := hnx.setCell (by simp) _
      clear HOW hnx hlt hk
      go_wp2
      go_loopw [11] (fun j wr => ∃ k : Nat, i ≤ k ∧ k ≤ len ∧ j = .int .i64 k ∧ Own wr w2.heap.size (len + 1) (T2 f i v k) ∧ Below w2.heap.size w2 wr) (fun j _ => len - (intOf j).toNat)
      case atStart => exact ⟨i, Nat.le_refl _, hi, rfl, HO4, hb4⟩
      case round =>
        clear HO4 hb4 hfr hce
        obtain ⟨k, hik, hk, rfl, HOW, hnx⟩ := hrel
        by_cases hlt : k < len
        · have hs : wr.cell? ⟨w.heap.size, k, none⟩ = some (.int .u64 (f k)) := (hnx.cell (p := ⟨w.heap.size, k, none⟩) hB0).trans (HO2.cell k (by omega))
          have hfr := HOW.frozen (k + 1)
          have hce := HOW.cell (k + 1) (by omega)
          go_wp2
          go_roundw
          case rel => exact ⟨k + 1, by omega, by omega, by go_num, HOW.put (T2_set f _ i v k hik), hnx.setCell (by simp) _⟩
          case measure => simp [intOf]; omega
        · have hkl : k = len := by omega
          have HOT : Own wr w2.heap.size (len + 1) (T2 f i v len) := by rw [hkl] at HOW; exact HOW
          have hB2 := HOT.lt
          have hL := insert_lawB f len i v hi
          have hZ := zero_lawB (len + 1)
          have hge2 : len ≤ k := by omega
          clear HOW hkl hlt hk
          go_wp2_with (first
            | (at_make; refine wpList_make_full _ rfl (.tmp 77) (.tmp 77) 22 rfl wr.heap.size 27 i0 (.int .u64 0) 1 Try.underlying22 hi0 hz0 hz1 .i64 .i64 _ _ (len + 1) rfl rfl (by omega) (by omega) (bytes_le hz2 (by omega)) (le_max (by omega)) (Nat.le_refl _) ?_; intro w5 hown5 hgrow5; obtain ⟨HO5, hb5⟩ := made_owns hown5 hgrow5; clear hown5 hgrow5)
            | (go_at_call_of 6 w2.heap.size; go_must (refine (empty_own _ _ _ _ _ (by omega) (HOT.reads.below hb5 hB2)).mono ?_; rintro e w6 ⟨rfl, rfl⟩))
            | (go_at_call_of 6 w.heap.size; go_must (refine (empty_own _ _ _ _ _ (by omega) ((HO2.reads.below hnx hB0).below hb5 (by omega))).mono ?_; rintro e w6 ⟨rfl, rfl⟩))
            | (go_at_call_of 6 wr.heap.size; go_must (refine (empty_own _ _ _ _ _ (by omega) HO5.reads).mono ?_; rintro e w6 ⟨rfl, rfl⟩)))
          all_goals
            go_ret
            exact ⟨rfl, (hb2.trans (hnx.mono (by omega))).trans (hb5.mono (by omega))⟩

set_option maxHeartbeats 1000000 in
theorem insert_nil (v : Int) (w : World) :
    Calls Try.prog 4 #[.slice none 0 0, .int .i64 0, .int .u64 v] w fun e w' => e = .returned (.bool true) ∧ Below w.heap.size w w' := by
  obtain ⟨i0, hi0, hz0, hz1, hz2⟩ := info_parts Try.info27
  have hnn := fun wx => run_neq_slice_nil_any (P := Try.prog) wx 22 27 none 0 0 0 0 Try.underlying22
  go_enter Try.func4, Try.ntmps4
  go_wp2_with (first
    | (at_make; refine wpList_make_full _ rfl (.tmp 44) (.tmp 44) 22 rfl w.heap.size 27 i0 (.int .u64 0) 1 Try.underlying22 hi0 hz0 hz1 .i64 .i64 _ _ 1 rfl rfl rfl rfl (bytes_le hz2 (by omega)) (le_max (by omega)) (Nat.le_refl _) ?_; intro w3 hown3 hgrow3; obtain ⟨HO3, hb3⟩ := made_owns hown3 hgrow3; clear hown3 hgrow3)
    | (go_at_call 8; go_in))
  clear hnn
  go_loop [10] (fun j => j = .int .i64 0) (fun _ => 0)
  case atStart => rfl
  case round =>
    subst hrel
    have hfr := HO3.frozen 0
    have hce := HO3.cell 0 (by omega)
    have HO4 : Own (w3.setCell ⟨w.heap.size, 0, none⟩ (.int .u64 v)) w.heap.size 1 (T2 (fun _ => 0) 0 v 0) := HO3.put (by have := T2_put (fun _ => 0) 1 0 v; rw [T1_zero] at this; exact this)
    have hb4 : Below w.heap.size w (w3.setCell ⟨w.heap.size, 0, none⟩ (.int .u64 v)) := hb3.setCell (by simp) _
    clear HO3 hb3
    go_wp2
    go_loopw [11] (fun j wr => j = .int .i64 0 ∧ Own wr w.heap.size 1 (T2 (fun _ => 0) 0 v 0) ∧ Below w.heap.size w wr) (fun _ _ => 0)
    case atStart => exact ⟨rfl, HO4, hb4⟩
    case round =>
      clear HO4 hb4 hfr hce
      obtain ⟨rfl, HOT, hnx⟩ := hrel
      have hB2 := HOT.lt
      have hL : emptyB (T2 (fun _ => 0) 0 v 0) 1 = (v == 0) := by
        have := insert_lawB (fun _ => 0) 0 0 v (Nat.le_refl _)
        rw [zero_lawB 0, Bool.true_and] at this
        exact this
      have hZ := zero_lawB 1
      go_wp2_with (first
        | (at_make; refine wpList_make_full _ rfl (.tmp 77) (.tmp 77) 22 rfl wr.heap.size 27 i0 (.int .u64 0) 1 Try.underlying22 hi0 hz0 hz1 .i64 .i64 _ _ 1 rfl rfl rfl rfl (bytes_le hz2 (by omega)) (le_max (by omega)) (Nat.le_refl _) ?_; intro w5 hown5 hgrow5; obtain ⟨HO5, hb5⟩ := made_owns hown5 hgrow5; clear hown5 hgrow5)
        | (go_at_call_of 6 w.heap.size; go_must (refine (empty_own _ _ _ _ _ (by omega) (HOT.reads.below hb5 hB2)).mono ?_; rintro e w6 ⟨rfl, rfl⟩))
        | (go_at_call_of 6 wr.heap.size; go_must (refine (empty_own _ _ _ _ _ (by omega) HO5.reads).mono ?_; rintro e w6 ⟨rfl, rfl⟩))
        | (go_at_call 6; go_must (refine (empty_nil _ _ _).mono ?_; rintro e w6 ⟨rfl, rfl⟩)))
      all_goals
        go_ret
        exact ⟨rfl, hnx.trans (hb5.mono (by omega))⟩
end Go.Proofs.Qxb6628177a
