import Derived.Test.Qxb6628232aBytes
namespace Go.Proofs.Qxb6628232a
open Go.ChangeShapes Go.WideShapes Go.ChangeAt Go.RowKit

set_option maxRecDepth 100000 in
set_option maxHeartbeats 2000000 in
theorem small5_any (ao bo : Option Addr) (la ca lb cb : Nat) (T X : Rs) (r s d : ByteArray) (w : World) (_hm : la ≤ 9223372036854775807) (_hm2 : lb ≤ 9223372036854775807) (hT : T.In w ao la) (hX : X.In w bo lb) :
    Calls Try.prog 5 #[.slice ao la ca, .agg #[.string r, .string s, .string d], .slice bo lb cb] w fun e w' => (∃ o : Bool, e = .returned (.bool o) ∧ (o = true → (la ≤ 1048576 ∧ T.Small la) ∧ (lb ≤ 1048576 ∧ X.Small lb) ∧ r.size ≤ 1048576 ∧ s.size ≤ 1048576 ∧ d.size ≤ 1048576)) ∧ Below w.heap.size w w' := by
  by_cases hbig : 1048576 < la
  · have hbig' : (1048576 : Int) < (la : Int) := by omega
    go_enter Try.func5, Try.ntmps5
    go_wp2
    go_ret
    exact ⟨⟨false, rfl, fun h => by cases h⟩, (Below.refl _ _).alloc (Nat.le_refl _) _⟩
  · have hbig' : (la : Int) ≤ (1048576 : Int) := by omega
    go_enter Try.func5, Try.ntmps5
    go_wp2
    go_loopw [7, 8] (fun z i wr => ∃ k : Nat, k ≤ la ∧ i = .int .i64 k ∧ (∃ n : Int, z = .int .i64 n ∧ 0 ≤ n ∧ n ≤ 1048576) ∧ Below (w.heap.size + 1) (w.alloc (boxOf r s d)) wr ∧ T.Small k) (fun _ i _ => la - (intOf i).toNat)
    case atStart => exact ⟨0, Nat.zero_le _, rfl, ⟨_, rfl, by omega, by omega⟩, Below.refl _ _, fun i hi => by omega⟩
    case round =>
      obtain ⟨k, hk, rfl, ⟨n, rfl, h0, h1⟩, hnx, hsm⟩ := hrel
      by_cases hlt : k < la
      · obtain ⟨b, off, rfl, hb, hA⟩ := hT (by omega)
        obtain ⟨c0, c1, c2⟩ := (hA.below (below_box hnx) hb) k hlt
        go_wp2
        all_goals first
          | (go_ret; exact ⟨⟨false, rfl, fun h => by cases h⟩, below_box hnx⟩)
          | (go_roundw
             case rel => exact ⟨k + 1, by omega, by go_num, ⟨_, rfl, by omega, by omega⟩, hnx, hsm.step (by omega) (by omega) (by omega)⟩
             case measure => simp [intOf]; omega)
      · obtain ⟨c0, c1, c2⟩ := box_cells hnx
        have hkl : Hid (k = la) := by show k = la; omega
        have HT : Hid (la ≤ 1048576 ∧ T.Small la) := ⟨by omega, by rw [← hkl.out]; exact hsm⟩
        clear hsm hT
        go_wp2
        all_goals try (go_ret; exact ⟨⟨false, rfl, fun h => by cases h⟩, below_box hnx⟩)
        have HR : Hid (r.size ≤ 1048576 ∧ s.size ≤ 1048576 ∧ d.size ≤ 1048576) := ⟨by omega, by omega, by omega⟩
        have hlb : lb ≤ 1048576 := by omega
        go_loopw [7, 9] (fun z i wr => ∃ k : Nat, k ≤ lb ∧ i = .int .i64 k ∧ (∃ n : Int, z = .int .i64 n ∧ 0 ≤ n ∧ n ≤ 1048576) ∧ Below (w.heap.size + 1) (w.alloc (boxOf r s d)) wr ∧ X.Small k) (fun _ i _ => lb - (intOf i).toNat)
        case atStart => exact ⟨0, Nat.zero_le _, rfl, ⟨_, rfl, by omega, by omega⟩, hnx, fun i hi => by omega⟩
        case round =>
          clear hnx c0 c1 c2
          obtain ⟨k, hk, rfl, ⟨n, rfl, h0, h1⟩, hnx, hsm⟩ := hrel
          by_cases hlt : k < lb
          · obtain ⟨b, off, rfl, hb, hA⟩ := hX (by omega)
            obtain ⟨c0, c1, c2⟩ := (hA.below (below_box hnx) hb) k hlt
            go_wp2
            all_goals first
              | (go_ret; exact ⟨⟨false, rfl, fun h => by cases h⟩, below_box hnx⟩)
              | (go_roundw
                 case rel => exact ⟨k + 1, by omega, by go_num, ⟨_, rfl, by omega, by omega⟩, hnx, hsm.step (by omega) (by omega) (by omega)⟩
                 case measure => simp [intOf]; omega)
          · have hkl : Hid (k = lb) := by show k = lb; omega
            go_wp2
            go_ret
            exact ⟨⟨true, rfl, fun _ => ⟨HT.out, ⟨hlb, by rw [← hkl.out]; exact hsm⟩, HR.out⟩⟩, below_box hnx⟩
end Go.Proofs.Qxb6628232a
