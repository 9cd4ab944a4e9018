import Derived.Test.Qxb6627493aRows
import Derived.WalkKit
import Derived.ProofKit
import Derived.OpenShut
import Derived.ShutString
import Derived.ChangeOld
import Derived.Below
import Derived.Outline
namespace Go.Proofs.Qxb6627493a
open Go.ChangeShapes Go.WideShapes Go.ChangeAt Go.RowKit

/-- A lowercase hexadecimal digit. -/
def hexB (c : UInt8) : Bool := (decide (48 ≤ (c.toNat : Int)) && decide ((c.toNat : Int) ≤ 57)) || (decide (97 ≤ (c.toNat : Int)) && decide ((c.toNat : Int) ≤ 102))

def isTextB (s : ByteArray) : Bool := decide (s.size = 64) && s.data.toList.all hexB

theorem isTextB_no (s : ByteArray) (h : s.size ≠ 64) : isTextB s = false := by simp [isTextB, h]

theorem hexB_yes (c : UInt8) (h : (48 ≤ (c.toNat : Int) ∧ (c.toNat : Int) ≤ 57) ∨ (97 ≤ (c.toNat : Int) ∧ (c.toNat : Int) ≤ 102)) : hexB c = true := by
  unfold hexB; rcases h with ⟨a, b⟩ | ⟨a, b⟩ <;> simp [a, b]

theorem take_snoc (s : ByteArray) (k : Nat) (h : k < s.size) : s.data.toList.take (k + 1) = s.data.toList.take k ++ [s[k]] := by
  rw [List.take_succ_eq_append_getElem (by simpa using h)]; rfl

theorem isText_stop (s : ByteArray) (k : Nat) (h : k < s.size) (hc : hexB s[k] = false) : isTextB s = false := by
  unfold isTextB
  have : s.data.toList.all hexB = false := by
    rw [List.all_eq_false]
    exact ⟨s[k], List.getElem_mem (l := s.data.toList) (n := k) (by simpa using h), by simp [hc]⟩
  simp [this]

theorem isText_out (s : ByteArray) (k : Nat) (h : k < s.size) (h1 : (s[k].toNat : Int) < 48 ∨ 57 < (s[k].toNat : Int)) (h2 : (s[k].toNat : Int) < 97 ∨ 102 < (s[k].toNat : Int)) : isTextB s = false := by
  refine isText_stop s k h ?_
  unfold hexB
  simp only [Bool.or_eq_false_iff, Bool.and_eq_false_iff, decide_eq_false_iff_not]
  omega

theorem all_step (s : ByteArray) (k : Nat) (h : k < s.size) (hall : (s.data.toList.take k).all hexB = true) (hc : (48 ≤ (s[k].toNat : Int) ∧ (s[k].toNat : Int) ≤ 57) ∨ (97 ≤ (s[k].toNat : Int) ∧ (s[k].toNat : Int) ≤ 102)) : (s.data.toList.take (k + 1)).all hexB = true := by
  rw [take_snoc s k h, List.all_append, hall]
  simp [hexB_yes _ hc]

theorem isText_end (s : ByteArray) (k : Nat) (h : s.size ≤ k) (h64 : s.size = 64) (hall : (s.data.toList.take k).all hexB = true) : isTextB s = true := by
  rw [List.take_of_length_le (by simpa using h)] at hall
  simp only [isTextB, h64, hall]
  rfl

theorem ret_bool {a b : Bool} (h : a = b) : Ending.returned (.bool a) = .returned (.bool b) := by rw [h]

set_option maxHeartbeats 400000 in
theorem isText_any (s : ByteArray) (w : World) (hs : s.size ≤ maxLen) :
    Calls Try.prog 6 #[.string s] w fun e w' => e = .returned (.bool (isTextB s)) ∧ w' = w := by
  unfold maxLen at hs
  by_cases h64 : s.size = 64
  · have H64 : Hid (s.size = 64) := h64
    have h1 : ((s.size : Int) != 64) = false := by simp [h64]
    clear h64
    go_enter Try.func6, Try.ntmps6
    go_wp2
    go_loop [3] (fun i => ∃ k : Nat, k ≤ s.size ∧ i = .int .i64 k ∧ (s.data.toList.take k).all hexB = true) (fun i => s.size - (intOf i).toNat)
    case atStart => exact ⟨0, Nat.zero_le _, rfl, rfl⟩
    case round =>
      obtain ⟨k, hk, rfl, hall⟩ := hrel
      by_cases hlt : k < s.size
      · go_wp2
        all_goals first
          | (go_round
             case rel => exact ⟨k + 1, by omega, by go_num, all_step s k hlt hall (by omega)⟩
             case measure => simp [intOf]; omega)
          | (go_ret; exact ⟨ret_bool (isText_out s k hlt (by omega) (by omega)).symm, rfl⟩)
      · go_wp2
        go_ret
        exact ⟨ret_bool (isText_end s k (by omega) H64.out hall).symm, rfl⟩
  · rw [isTextB_no s h64]
    have h1 : ((s.size : Int) != 64) = true := by simp; omega
    go_enter Try.func6, Try.ntmps6
    go_wp2
    go_ret
    exact ⟨rfl, rfl⟩
end Go.Proofs.Qxb6627493a
