import Derived.Test.Qxb6628177aBits
namespace Go.Proofs.Qxb6628177a
open Go.ChangeShapes Go.WideShapes Go.ChangeAt Go.RowKit

set_option maxHeartbeats 400000 in
theorem count_some (b off len cap : Nat) (f : Nat → Int) (w : World) (hm : len ≤ 131072) (hf : Hid (∀ q, q < len → 0 ≤ f q ∧ f q < 18446744073709551616))
    (hc : Hid (∀ i, i < len → w.cell? ⟨b, off + i, none⟩ = some (.int .u64 (f i)))) :
    Calls Try.prog 7 #[.slice (some ⟨b, off, none⟩) len cap] w fun e w' => e = .returned (.int .i64 (cnt f len : Int)) ∧ w' = w := by
  go_enter Try.func7, Try.ntmps7
  go_wp2
  go_loop [3, 4] (fun n j => ∃ k : Nat, k ≤ len ∧ j = .int .i64 k ∧ n = .int .i64 (cnt f k : Int)) (fun _ j => len - (intOf j).toNat)
  case atStart => exact ⟨0, Nat.zero_le _, rfl, rfl⟩
  case round =>
    obtain ⟨k, hk, rfl, rfl⟩ := hrel
    by_cases hlt : k < len
    · have hcell := hc.out k hlt
      obtain ⟨z, hz⟩ : ∃ z : Nat, Hid (z = (f k).toNat) := ⟨_, rfl⟩
      have hfk := hf.out k hlt
      have hzz : f k = (z : Int) := by have := hz.out; omega
      rw [hzz] at hcell
      have hzb : Hid (z < u64Bound) := by show z < u64Bound; unfold u64Bound; omega
      clear hzz hfk
      have HC : Hid (cnt f (k + 1) = cnt f k + pc 64 z) := by show _ = _; rw [hz.out]; rfl
      have hcl := cnt_le f (k + 1)
      go_wp2
      go_loop [3, 5] (fun n y => ∃ m x : Nat, y = .int .u64 x ∧ n = .int .i64 m ∧ x < u64Bound ∧ m + pc 64 x = cnt f (k + 1)) (fun _ y => (intOf y).toNat)
      case atStart => exact ⟨_, z, rfl, rfl, hzb.out, HC.out.symm⟩
      case round =>
        obtain ⟨m, x, rfl, rfl, hxb, hsum⟩ := hrel
        have hm2 : m ≤ 64 * (k + 1) := by omega
        have HX : Hid _ := hxb
        have HS : Hid _ := hsum
        clear hsum hcl
        by_cases hx : x = 0
        · subst hx
          go_wp2
          go_round
          case rel => exact ⟨k + 1, by omega, by go_num, by rw [← HS.out, pc_zero]; rfl⟩
          case measure => simp [intOf]; omega
        · have h1 : 1 ≤ x := by omega
          have hx0 : ((x : Int) != 0) = true := by simp; omega
          have hxl : x ≤ 18446744073709551615 := by have := hxb; unfold u64Bound at this; omega
          clear hxb
          have hand := and_pred x h1 HX.out
          go_wp2
          go_round
          case rel => exact ⟨m + 1, _, rfl, by go_num, and_lt x HX.out, by have := pc_clear 64 x (by rw [← u64Bound_eq]; exact HX.out) (by omega); have := HS.out; omega⟩
          case measure => have : x &&& (x - 1) ≤ x - 1 := Nat.and_le_right
                          simp [intOf]; omega
    · have hkl : Hid (k = len) := by show k = len; omega
      go_wp2
      go_ret
      exact ⟨ret_int (by rw [hkl.out]), rfl⟩

theorem count_nil (ao : Option Addr) (cap : Nat) (w : World) :
    Calls Try.prog 7 #[.slice ao 0 cap] w fun e w' => e = .returned (.int .i64 0) ∧ w' = w := by
  go_enter Try.func7, Try.ntmps7
  go_wp2
  go_loop [3, 4] (fun n j => n = .int .i64 0 ∧ j = .int .i64 0) (fun _ _ => 0)
  case atStart => exact ⟨rfl, rfl⟩
  case round =>
    obtain ⟨rfl, rfl⟩ := hrel
    go_wp2
    go_ret
    exact ⟨rfl, rfl⟩
end Go.Proofs.Qxb6628177a
