import Derived.Test.Qxb6628232aBytes
namespace Go.Proofs.Qxb6628232a
open Go.ChangeShapes Go.WideShapes Go.ChangeAt Go.RowKit

set_option maxHeartbeats 800000 in
theorem small_any (ao : Option Addr) (len cap : Nat) (T : Rs) (i : Int) (r s d : ByteArray) (w : World) (_hm : len ≤ 9223372036854775807) (hT : T.In w ao len) :
    Calls Try.prog 10 #[.slice ao len cap, .int .i64 i, .agg #[.string r, .string s, .string d]] w fun e w' => (∃ o : Bool, e = .returned (.bool o) ∧ (o = true → len ≤ 1048576 ∧ T.Small len ∧ r.size ≤ 1048576 ∧ s.size ≤ 1048576 ∧ d.size ≤ 1048576)) ∧ Below w.heap.size w w' := by
  by_cases hbig : 1048576 < len
  · have hbig' : (1048576 : Int) < (len : Int) := by omega
    go_enter Try.func10, Try.ntmps10
    go_wp2
    go_ret
    exact ⟨⟨false, rfl, fun h => by cases h⟩, (Below.refl _ _).alloc (Nat.le_refl _) _⟩
  · have hbig' : (len : Int) ≤ (1048576 : Int) := by omega
    go_enter Try.func10, Try.ntmps10
    go_wp2
    go_loopw [7, 8] (fun z i wr => ∃ k : Nat, k ≤ len ∧ i = .int .i64 k ∧ (∃ n : Int, z = .int .i64 n ∧ 0 ≤ n ∧ n ≤ 1048576) ∧ Below (w.heap.size + 1) (w.alloc (boxOf r s d)) wr ∧ T.Small k) (fun _ i _ => len - (intOf i).toNat)
    case atStart => exact ⟨0, Nat.zero_le _, rfl, ⟨_, rfl, by omega, by omega⟩, Below.refl _ _, fun i hi => by omega⟩
    case round =>
      obtain ⟨k, hk, rfl, ⟨n, rfl, h0, h1⟩, hnx, hsm⟩ := hrel
      by_cases hlt : k < len
      · obtain ⟨b, off, rfl, hb, hA⟩ := hT (by omega)
        obtain ⟨c0, c1, c2⟩ := (hA.below (below_box hnx) hb) k hlt
        go_wp2
        all_goals first
          | (go_ret; exact ⟨⟨false, rfl, fun h => by cases h⟩, below_box hnx⟩)
          | (go_roundw
             case rel => exact ⟨k + 1, by omega, by go_num, ⟨_, rfl, by omega, by omega⟩, hnx, hsm.step (by omega) (by omega) (by omega)⟩
             case measure => simp [intOf]; omega)
      · obtain ⟨c0, c1, c2⟩ := box_cells hnx
        have hkl : Hid (k = len) := by show k = len; omega
        go_wp2
        all_goals first
          | (go_ret; exact ⟨⟨false, rfl, fun h => by cases h⟩, below_box hnx⟩)
          | (go_ret; exact ⟨⟨true, rfl, fun _ => ⟨by omega, by rw [← hkl.out]; exact hsm, by omega, by omega, by omega⟩⟩, below_box hnx⟩)
end Go.Proofs.Qxb6628232a
