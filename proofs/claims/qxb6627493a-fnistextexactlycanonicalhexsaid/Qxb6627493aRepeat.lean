import Derived.Test.Qxb6627493aIsText
import Derived.Laws.BytesArg
namespace Go.Proofs.Qxb6627493a
open Go.ChangeShapes Go.WideShapes Go.ChangeAt Go.RowKit

theorem Try.info5 : (Try.prog.info? 5).map (fun i => (i.zero, i.size, i.bytes)) = some (some (.int .u8 0), 1, 1) := by kernel_rfl

/-- k times c, then the zeros that 'make' laid. -/
def filling (c : Int) (n k : Nat) : List Int := List.replicate k c ++ List.replicate (n - k) 0

theorem filling_zero (c : Int) (n : Nat) : filling c n 0 = List.replicate n 0 := by simp [filling]
theorem filling_full (c : Int) (n : Nat) : filling c n n = List.replicate n c := by simp [filling]
theorem filling_length (c : Int) (n k : Nat) (h : k ≤ n) : (filling c n k).length = n := by simp [filling]; omega
theorem filling_set (c : Int) (n k : Nat) (h : k < n) : ((filling c n k).map (Value.int .u8)).set k (.int .u8 c) = (filling c n (k + 1)).map (Value.int .u8) := by
  have e : n - k = (n - (k + 1)) + 1 := by omega
  unfold filling
  rw [e, List.replicate_succ, List.replicate_succ', List.map_append, List.map_append, List.set_append_right _ _ (by simp)]
  simp

theorem made_zero (n : Nat) : (madeCells (Value.int .u8 0).cells (n * 1)).toList = (List.replicate n 0).map (Value.int .u8) := by
  have := toList_madeCells_one (.int .u8 0) n
  simpa [Value.cells] using this

set_option maxHeartbeats 400000 in
theorem repeat_any (c : Int) (n : Nat) (w : World) (hn : n ≤ 64) :
    Calls Try.prog 9 #[.int .u8 c, .int .i64 n] w fun e w' => e = .returned (.string (strOfNums (List.replicate n c))) ∧ Below w.heap.size w w' := by
  obtain ⟨i0, hi, hz0, hz1, hz2⟩ := info_parts Try.info5
  go_enter Try.func9, Try.ntmps9
  go_wp2_with (at_make; refine wpList_make_full _ rfl _ _ 30 rfl w.heap.size 5 i0 (.int .u8 0) 1 Try.underlying30 hi hz0 hz1 .i64 .i64 _ _ n rfl rfl rfl rfl (by rw [hz2]; omega) (by unfold maxLen; omega) (Nat.le_refl _) ?_; intro w1 hown1 hgrow1)
  rw [made_zero] at hown1
  have hb1 : Below w.heap.size w w1 := (Below.refl _ _).grown hgrow1 (Nat.le_refl _) (fun k h => by cases h)
  clear hgrow1
  go_loopw [6] (fun i wr => ∃ k : Nat, k ≤ n ∧ i = .int .i64 k ∧ wr.ownsRow w.heap.size 5 1 (.slice (some ⟨w.heap.size, 0, none⟩) n n) n ((filling c n k).map (Value.int .u8)) ∧ Below w.heap.size w wr) (fun i _ => n - (intOf i).toNat)
  case atStart => exact ⟨0, Nat.zero_le _, rfl, by rw [filling_zero]; exact hown1, hb1⟩
  case round =>
    clear hown1 hb1
    obtain ⟨k, hk, rfl, hown, hnx⟩ := hrel
    by_cases hlt : k < n
    · have hfr : wr.frozen? ⟨w.heap.size, k, none⟩ = false := hown.frozenAt k
      have hst := hown.stored k (.int .u8 c)
      have hcell : ∃ v, wr.cell? ⟨w.heap.size, k, none⟩ = some v := by
        rw [hown.cellAt k (by omega)]
        exact ⟨_, List.getElem?_eq_getElem (by simp [filling_length c n k hk, hlt])⟩
      obtain ⟨v0, hcell⟩ := hcell
      rw [filling_set c n k hlt] at hst
      have HS : Hid _ := hst
      clear hst
      go_wp2
      go_roundw
      case rel => exact ⟨k + 1, by omega, by go_num, HS.out.1, hnx.setCell (by simp) _⟩
      case measure => simp [intOf]; omega
    · obtain rfl : k = n := by omega
      rw [filling_full] at hown
      have hconv := run_convert_bytes_arg (P := Try.prog) wr 30 5 Try.underlying30 Try.underlying5 w.heap.size 0 k k (List.replicate k c) (by simp) (fun i hi => by
        rw [Nat.zero_add, hown.cellAt i (by omega)]
        simp [hi]) 9 Try.underlying9
      go_wp2
      go_ret
      exact ⟨rfl, hnx⟩
end Go.Proofs.Qxb6627493a
