import Derived.Test.Qxb6628177aRows
import Derived.WalkKit
import Derived.ProofKit
import Derived.OpenShut
import Derived.ShutString
import Derived.ChangeOld
import Derived.Below
import Derived.Outline
import Derived.WalkSpells
import Derived.Laws.CopyOwn
namespace Go.Proofs.Qxb6628177a
open Go.ChangeShapes Go.WideShapes Go.ChangeAt Go.RowKit

theorem ret_bool {a b : Bool} (h : a = b) : Ending.returned (.bool a) = .returned (.bool b) := by rw [h]
theorem ret_int {k : IntKind} {a b : Int} (h : a = b) : Ending.returned (.int k a) = .returned (.int k b) := by rw [h]

/-- All words are zero. -/
def allZ (zs : List Int) : Bool := zs.all (· == 0)

theorem allZ_step {zs : List Int} {k : Nat} (h : allZ (zs.take k) = true) (hk : k < zs.length) (hz : zs.getD k 0 = 0) : allZ (zs.take (k + 1)) = true := by
  rw [List.take_succ_eq_append_getElem hk]
  unfold allZ at *
  rw [List.all_append, h]
  simpa [List.getD, List.getElem?_eq_getElem hk] using hz

theorem allZ_stop {zs : List Int} {k : Nat} (hk : k < zs.length) (hz : ¬ zs.getD k 0 = 0) : allZ zs = false := by
  unfold allZ
  rw [List.all_eq_false]
  exact ⟨zs[k], List.getElem_mem hk, by simpa [List.getD, List.getElem?_eq_getElem hk] using hz⟩

theorem allZ_end {zs : List Int} {k : Nat} (h : allZ (zs.take k) = true) (hk : zs.length ≤ k) : allZ zs = true := by
  rwa [List.take_of_length_le hk] at h

set_option maxHeartbeats 400000 in
theorem empty_nil (ao : Option Addr) (cap : Nat) (w : World) :
    Calls Try.prog 6 #[.slice ao 0 cap] w fun e w' => e = .returned (.bool true) ∧ w' = w := by
  go_enter Try.func6, Try.ntmps6
  go_wp2
  go_loop [7] (fun i => i = .int .i64 0) (fun _ => 0)
  case atStart => rfl
  case round =>
    subst hrel
    go_wp2
    go_ret
    exact ⟨rfl, rfl⟩

set_option maxHeartbeats 400000 in
theorem empty_some (b off len cap : Nat) (zs : List Int) (w : World) (hl : zs.length = len) (hm : len ≤ 1048576)
    (hc : ∀ i, i < len → w.cell? ⟨b, off + i, none⟩ = some (.int .u64 (zs.getD i 0))) :
    Calls Try.prog 6 #[.slice (some ⟨b, off, none⟩) len cap] w fun e w' => e = .returned (.bool (allZ zs)) ∧ w' = w := by
  have HL : Hid (zs.length = len) := hl
  have HC : Hid _ := hc
  clear hl hc
  go_enter Try.func6, Try.ntmps6
  go_wp2
  go_loop [7] (fun i => ∃ k : Nat, k ≤ len ∧ i = .int .i64 k ∧ allZ (zs.take k) = true) (fun i => len - (intOf i).toNat)
  case atStart => exact ⟨0, Nat.zero_le _, rfl, rfl⟩
  case round =>
    obtain ⟨k, hk, rfl, hall⟩ := hrel
    have HA : Hid _ := hall
    clear hall
    by_cases hlt : k < len
    · have hcell := HC.out k hlt
      obtain ⟨z, hz⟩ : ∃ z, Hid (z = zs.getD k 0) := ⟨_, rfl⟩
      rw [← hz.out] at hcell
      go_wp2
      · go_ret
        exact ⟨ret_bool (allZ_stop (k := k) (by have := HL.out; omega) (by rw [← hz.out]; have h : (z != 0) = true := by assumption
                                                                           simpa using h)).symm, rfl⟩
      · have h : (z != 0) = false := by assumption
        have h0 : z = 0 := by simpa using h
        go_round
        case rel => exact ⟨k + 1, by omega, by go_num, allZ_step HA.out (by have := HL.out; omega) (by rw [← hz.out]; exact h0)⟩
        case measure => simp [intOf]; omega
    · go_wp2
      go_ret
      exact ⟨ret_bool (allZ_end HA.out (by have := HL.out; omega)).symm, rfl⟩

/-- The slice value reads as the words zs. -/
def Reads (w : World) (ao : Option Addr) (len : Nat) (zs : List Int) : Prop :=
  zs.length = len ∧ (0 < len → ∃ b off, ao = some ⟨b, off, none⟩ ∧ ∀ i, i < len → w.cell? ⟨b, off + i, none⟩ = some (.int .u64 (zs.getD i 0)))

theorem empty_any (ao : Option Addr) (len cap : Nat) (zs : List Int) (w : World) (hm : len ≤ 1048576) (h : Reads w ao len zs) :
    Calls Try.prog 6 #[.slice ao len cap] w fun e w' => e = .returned (.bool (allZ zs)) ∧ w' = w := by
  obtain ⟨hl, hr⟩ := h
  by_cases h0 : len = 0
  · subst h0
    obtain rfl : zs = [] := List.eq_nil_of_length_eq_zero hl
    exact empty_nil ao cap w
  · obtain ⟨b, off, rfl, hc⟩ := hr (by omega)
    exact empty_some b off len cap zs w hl hm hc

theorem Reads.drop {w : World} {b off len k : Nat} {zs : List Int} {ao : Option Addr} (h : Reads w (some ⟨b, off, none⟩) len zs) (hk : k ≤ len) (hao : k < len → ao = some ⟨b, off + k, none⟩) : Reads w ao (len - k) (zs.drop k) := by
  obtain ⟨hl, hr⟩ := h
  refine ⟨by simp [hl], fun h0 => ?_⟩
  obtain ⟨b', off', e, hc⟩ := hr (by omega)
  simp only [Option.some.injEq, Addr.mk.injEq, and_true] at e
  obtain ⟨rfl, rfl⟩ := e
  refine ⟨b, off + k, hao (by omega), fun i hi => ?_⟩
  rw [Nat.add_assoc, hc (k + i) (by omega)]
  simp [List.getD, List.getElem?_drop]

theorem Reads.take {w : World} {b off len k : Nat} {zs : List Int} {ao : Option Addr} (h : Reads w (some ⟨b, off, none⟩) len zs) (hk : k ≤ len) (hao : 0 < k → ao = some ⟨b, off, none⟩) : Reads w ao k (zs.take k) := by
  obtain ⟨hl, hr⟩ := h
  refine ⟨by simp [hl, hk], fun h0 => ?_⟩
  obtain ⟨b', off', e, hc⟩ := hr (by omega)
  simp only [Option.some.injEq, Addr.mk.injEq, and_true] at e
  obtain ⟨rfl, rfl⟩ := e
  refine ⟨b, off, hao (by omega), fun i hi => ?_⟩
  rw [hc i (by omega)]
  simp [List.getD, hi]
end Go.Proofs.Qxb6628177a
