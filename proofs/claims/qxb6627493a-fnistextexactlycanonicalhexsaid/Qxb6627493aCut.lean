import Derived.Test.Qxb6627493aRepeat
import Derived.Deep.RegionWith
import Derived.WalkSpells
import Derived.Laws.Concat
import Derived.Lib.Strings
namespace Go.Proofs.Qxb6627493a
open Go.ChangeShapes Go.WideShapes Go.ChangeAt Go.RowKit

set_option maxHeartbeats 400000 in
theorem cut_out (s : ByteArray) (k : Int) (hs : s.size ≤ maxLen) (w : World) (h : 1048576 < s.size ∨ k < 0 ∨ s.size < k) :
    Calls Try.prog 4 #[.string s, .int .i64 k] w fun e w' => e = .returned (.bool true) ∧ Below w.heap.size w w' := by
  unfold maxLen at hs
  by_cases h1 : 1048576 < s.size
  · have h1' : (1048576 : Int) < (s.size : Int) := by omega
    go_enter Try.func4, Try.ntmps4
    go_wp2
    go_ret
    exact ⟨rfl, Below.refl _ _⟩
  · have h1' : (s.size : Int) ≤ (1048576 : Int) := by omega
    by_cases h2 : k < 0
    · go_enter Try.func4, Try.ntmps4
      go_wp2
      go_ret
      exact ⟨rfl, Below.refl _ _⟩
    · have h3 : (s.size : Int) < k := by omega
      go_enter Try.func4, Try.ntmps4
      go_wp2
      go_ret
      exact ⟨rfl, Below.refl _ _⟩

theorem i64_and15 (n : Int) : bits .and .i64 n 15 = n % 16 := by
  have h15 : (BitVec.ofInt 64 15).toNat = 2 ^ 4 - 1 := by decide
  have key : (BitVec.ofInt 64 n &&& BitVec.ofInt 64 15).toNat = (n % ((2 ^ 64 : Nat) : Int)).toNat % 2 ^ 4 := by
    rw [BitVec.toNat_and, BitVec.toNat_ofInt, h15, Nat.and_two_pow_sub_one_eq_mod]
  show IntKind.i64.wrap ((BitVec.ofInt 64 n &&& BitVec.ofInt 64 15).toNat : Nat) = n % 16
  rw [key, IntKind.wrap_i64]
  omega

/-- The sixteen digits, as the dump spells the constant. -/
abbrev digits : ByteArray := { data := #[48, 49, 50, 51, 52, 53, 54, 55, 56, 57, 97, 98, 99, 100, 101, 102] }

theorem digits_hex : ∀ j : Fin 16, hexB (digits.data.toList.getD j.val 0) = true := by decide +kernel

theorem digit_hex (j : Nat) (h : j < digits.size) : hexB digits[j] = true := by
  have := digits_hex ⟨j, h⟩
  rw [List.getD, List.getElem?_eq_getElem (by exact h)] at this
  exact this

/-- n times the byte c. -/
def rep (c : Int) (n : Nat) : ByteArray := strOfNums (List.replicate n c)

theorem rep_data (c : UInt8) (n : Nat) : (rep (c.toNat : Int) n).data.toList = List.replicate n c := by
  simp [rep, strOfNums]

theorem rep_size (c : Int) (n : Nat) : (rep c n).size = n := by simp [rep, strOfNums, ByteArray.size]

theorem le_maxLen {n : Nat} (h : n ≤ 1048576) : n ≤ maxLen := by unfold maxLen; omega
theorem rep_le (c : Int) : (rep c 64).size ≤ maxLen := by rw [rep_size]; unfold maxLen; omega

theorem rep_text (c : UInt8) (h : hexB c = true) : isTextB (rep (c.toNat : Int) 64) = true := by
  unfold isTextB
  rw [rep_data, rep_size]
  simp [h]

theorem repeat_at (c m : Int) (n : Nat) (w : World) (hn : n ≤ 64) (hm : m = n) :
    Calls Try.prog 9 #[.int .u8 c, .int .i64 m] w fun e w' => e = .returned (.string (rep c n)) ∧ Below w.heap.size w w' := by
  subst hm; exact repeat_any c n w hn

set_option maxHeartbeats 400000 in
theorem cut_long (s : ByteArray) (k : Nat) (w : World) (h1 : s.size ≤ 1048576) (h3 : k ≤ s.size) (h64 : ((s.size : Int) != 64) = true) :
    Calls Try.prog 4 #[.string s, .int .i64 (k : Int)] w fun e w' => e = .returned (.bool true) ∧ Below w.heap.size w w' := by
  obtain ⟨j, hj, hb⟩ : ∃ j : Nat, j < 16 ∧ bits .and .i64 (k : Int) 15 = (j : Int) := ⟨k % 16, by omega, by rw [i64_and15]; omega⟩
  have hT := rep_text digits[j] (digit_hex j hj)
  have hF : isTextB s = false := isTextB_no s (by simp at h64; omega)
  go_enter Try.func4, Try.ntmps4
  go_wp2_with (first
    | (go_at_call 9; go_must (refine (repeat_at _ _ 64 _ (by omega) rfl).mono ?_; rintro e w1 ⟨rfl, hb1⟩))
    | (go_at_call 6; go_must (refine (isText_any _ _ ?_).mono ?_; (focus (first | exact le_maxLen h1 | exact rep_le _)); rintro e w2 ⟨rfl, rfl⟩))
    | go_in)
  go_ret
  exact ⟨rfl, hb1⟩

/-- The two filled strings. -/
def leftOf (s : ByteArray) (c : Int) (k : Nat) : ByteArray := s.extract 0 k ++ rep c (64 - k)
def rightOf (s : ByteArray) (c : Int) (k : Nat) : ByteArray := rep c k ++ s.extract k s.size

theorem leftOf_data (s : ByteArray) (c : UInt8) (k : Nat) : (leftOf s (c.toNat : Int) k).data.toList = s.data.toList.take k ++ List.replicate (64 - k) c := by
  have e : (leftOf s (c.toNat : Int) k).data.toList = (s.extract 0 k).data.toList ++ (rep (c.toNat : Int) (64 - k)).data.toList := by
    unfold leftOf; rw [ByteArray.data_append, Array.toList_append]
  rw [e, rep_data, Lib.extract_data]; simp

theorem rightOf_data (s : ByteArray) (c : UInt8) (k : Nat) : (rightOf s (c.toNat : Int) k).data.toList = List.replicate k c ++ s.data.toList.drop k := by
  have e : (rightOf s (c.toNat : Int) k).data.toList = (rep (c.toNat : Int) k).data.toList ++ (s.extract k s.size).data.toList := by
    unfold rightOf; rw [ByteArray.data_append, Array.toList_append]
  rw [e, rep_data, Lib.extract_data]
  congr 1
  exact List.take_of_length_le (by simp)

theorem size_of_data (s : ByteArray) : s.size = s.data.toList.length := by simp

theorem law64 (s : ByteArray) (c : UInt8) (hc : hexB c = true) (k : Nat) (h64 : s.size = 64) (hk : k ≤ 64) :
    isTextB s = (isTextB (leftOf s (c.toNat : Int) k) && isTextB (rightOf s (c.toNat : Int) k)) := by
  have hl : s.data.toList.length = 64 := by rw [← size_of_data]; exact h64
  have e1 : (leftOf s (c.toNat : Int) k).size = 64 := by rw [size_of_data, leftOf_data]; simp [hl]; omega
  have e2 : (rightOf s (c.toNat : Int) k).size = 64 := by rw [size_of_data, rightOf_data]; simp [hl]; omega
  unfold isTextB
  rw [e1, e2, h64, leftOf_data, rightOf_data]
  have hr : ∀ n, (List.replicate n c).all hexB = true := fun n => by simp [hc]
  rw [List.all_append, List.all_append, hr, hr]
  have := List.take_append_drop k s.data.toList
  conv => lhs; rw [← this, List.all_append]
  simp

theorem left_add (s : ByteArray) (c : Int) (k : Nat) (h1 : s.size ≤ 1048576) (w : World) :
    (Op.stringOp .add (s.extract 0 k) (rep c (64 - k))).run Try.prog w = .ok (.string (leftOf s c k)) w := by
  refine run_string_add_sum w _ _ ?_
  have : (s.extract 0 k).size ≤ s.size := by simp; omega
  rw [rep_size]; omega

theorem right_add (s : ByteArray) (c : Int) (k : Nat) (h1 : s.size ≤ 1048576) (hk : k ≤ 64) (w : World) :
    (Op.stringOp .add (rep c k) (s.extract k s.size)).run Try.prog w = .ok (.string (rightOf s c k)) w := by
  refine run_string_add_sum w _ _ ?_
  have : (s.extract k s.size).size ≤ s.size := by simp
  rw [rep_size]; omega

theorem left_le (s : ByteArray) (c : Int) (k : Nat) (h1 : s.size ≤ 1048576) : (leftOf s c k).size ≤ maxLen := by
  unfold leftOf maxLen; rw [ByteArray.size_append, rep_size]
  have : (s.extract 0 k).size ≤ s.size := by simp; omega
  omega

theorem right_le (s : ByteArray) (c : Int) (k : Nat) (h1 : s.size ≤ 1048576) (hk : k ≤ 64) : (rightOf s c k).size ≤ maxLen := by
  unfold rightOf maxLen; rw [ByteArray.size_append, rep_size]
  have : (s.extract k s.size).size ≤ s.size := by simp
  omega

theorem law_end {s l r x : Bool} (h : s = (l && r)) (hx : (l = true ∧ x = (s == r)) ∨ (¬ l = true ∧ x = !s)) : x = true := by
  subst h
  rcases hx with ⟨h1, h2⟩ | ⟨h1, h2⟩
  · rw [h2, h1]; simp
  · have : l = false := by simpa using h1
    rw [h2, this]; simp

theorem below3 {w a b c : World} (h1 : Below w.heap.size w a) (h2 : Below a.drew.heap.size a.drew b) (h3 : Below b.drew.heap.size b.drew c) : Below w.heap.size w c := by
  have k1 : Below w.heap.size w b := h1.drew.trans (h2.mono h1.size)
  exact k1.drew.trans (h3.mono k1.size)

set_option maxHeartbeats 800000 in
theorem cut_64 (s : ByteArray) (k : Nat) (w : World) (h1 : s.size ≤ 1048576) (h3 : k ≤ s.size) (h4 : k ≤ 64) (h64 : ((s.size : Int) != 64) = false) :
    Calls Try.prog 4 #[.string s, .int .i64 (k : Int)] w fun e w' => e = .returned (.bool true) ∧ Below w.heap.size w w' := by
  obtain ⟨j, hj, hb⟩ : ∃ j : Nat, j < 16 ∧ bits .and .i64 (k : Int) 15 = (j : Int) := ⟨k % 16, by omega, by rw [i64_and15]; omega⟩
  have hT := rep_text digits[j] (digit_hex j hj)
  have hla := left_add s (digits[j].toNat : Int) k h1
  have hra := right_add s (digits[j].toNat : Int) k h1 h4
  have HL : Hid _ := law64 s digits[j] (digit_hex j hj) k (by simp at h64; omega) h4
  go_enter Try.func4, Try.ntmps4
  go_wp2_with (first
    | (go_at_call 9; go_must (refine (repeat_at _ _ 64 _ (by omega) rfl).mono ?_; rintro e w1 ⟨rfl, hb1⟩))
    | (go_at_call 6; go_must (refine (isText_any _ _ ?_).mono ?_; (focus (first | exact le_maxLen h1 | exact rep_le _)); rintro e w2 ⟨rfl, rfl⟩))
    | go_in)
  go_region_with (first
    | (go_at_call 9; go_must (refine (repeat_at _ _ (64 - k) _ (by omega) ?_).mono ?_; (focus (rw [IntKind.wrap_i64]; omega)); rintro e w3 ⟨rfl, hb3⟩))
    | (go_at_call 6; go_must (refine (isText_any _ _ ?_).mono ?_; (focus exact left_le _ _ _ h1); rintro e w2 ⟨rfl, rfl⟩)))
  go_wp2
  go_region_with (first
    | (go_at_call 9; go_must (refine (repeat_at _ _ k _ (by omega) ?_).mono ?_; (focus rfl); rintro e w4 ⟨rfl, hb4⟩))
    | (go_at_call 6; go_must (refine (isText_any _ _ ?_).mono ?_; (focus exact right_le _ _ _ h1 h4); rintro e w5 ⟨rfl, rfl⟩)))
  go_wp2
  all_goals
    go_ret
    exact ⟨ret_bool (law_end HL.out (by first | exact .inl ⟨‹_›, rfl⟩ | exact .inr ⟨‹_›, rfl⟩)), below3 hb1 hb3 hb4⟩

theorem cut_any (s : ByteArray) (k : Int) (hs : s.size ≤ maxLen) (w : World) :
    Calls Try.prog 4 #[.string s, .int .i64 k] w fun e w' => e = .returned (.bool true) ∧ Below w.heap.size w w' := by
  by_cases h : 1048576 < s.size ∨ k < 0 ∨ s.size < k
  · exact cut_out s k hs w h
  · obtain ⟨n, rfl⟩ : ∃ n : Nat, k = (n : Int) := ⟨k.toNat, by omega⟩
    by_cases h64 : s.size = 64
    · exact cut_64 s n w (by omega) (by omega) (by omega) (by simp [h64])
    · exact cut_long s n w (by omega) (by omega) (by simp; omega)
end Go.Proofs.Qxb6627493a
