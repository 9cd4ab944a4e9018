import Derived.Test.Qxb6627493aCanon
namespace Go.Proofs.Qxb6627493a
open Go.ChangeShapes Go.WideShapes Go.ChangeAt Go.RowKit

/-! ### The plain law -/
def canU (c : UInt8) : UInt8 := UInt8.ofNat (digN (nibN c.toNat))

theorem canU_all : ∀ n : Fin 256, hexB (canU (UInt8.ofNat n.val)) = true ∧ hexB (UInt8.ofNat n.val) = (canU (UInt8.ofNat n.val) == UInt8.ofNat n.val) := by decide +kernel

theorem canU_hex (c : UInt8) : hexB (canU c) = true := by
  have := (canU_all ⟨c.toNat, UInt8.toNat_lt c⟩).1
  simpa using this

theorem canU_same (c : UInt8) : hexB c = (canU c == c) := by
  have := (canU_all ⟨c.toNat, UInt8.toNat_lt c⟩).2
  simpa using this

theorem canonOf_data (s : ByteArray) (h : s.size = 64) : (canonOf s).data.toList = s.data.toList.map canU := by
  have hl : s.data.toList.length = 64 := by rw [← size_of_data]; exact h
  unfold canonOf
  rw [strOfNums_data, List.map_map]
  apply List.ext_getElem
  · simp [hl]
  · intro i h1 h2
    have hi : i < 64 := by simpa using h1
    have hi' : i < s.data.toList.length := by omega
    simp only [List.getElem_map, List.getElem_range, Function.comp, canN, canU, byteN]
    rw [List.getD, List.getElem?_eq_getElem hi']
    simp

theorem canonOf_size (s : ByteArray) (h : s.size = 64) : (canonOf s).size = 64 := by
  rw [size_of_data, canonOf_data s h, List.length_map, ← size_of_data, h]

theorem canon_text (s : ByteArray) (h : s.size = 64) : isTextB (canonOf s) = true := by
  unfold isTextB
  rw [canonOf_size s h, canonOf_data s h, List.all_map]
  have : s.data.toList.all (hexB ∘ canU) = true := List.all_eq_true.2 fun c _ => canU_hex c
  rw [this]
  rfl

theorem all_same (l : List UInt8) : l.all hexB = (l.map canU == l) := by
  induction l with
  | nil => rfl
  | cons c l ih =>
    rw [List.all_cons, List.map_cons, ih, canU_same]
    rfl

theorem text_canon (s : ByteArray) (h : s.size = 64) : isTextB s = ((canonOf s).data.toList == s.data.toList) := by
  unfold isTextB
  rw [h, canonOf_data s h, all_same]
  simp

theorem text_canon' (s : ByteArray) (h : s.size = 64) : isTextB s = ((canonOf s).toList == s.toList) := by
  rw [text_canon s h, ByteArray.toList_eq, ByteArray.toList_eq]

set_option maxHeartbeats 400000 in
theorem hex_out (s : ByteArray) (_hs : s.size ≤ 9223372036854775807) (w : World) (h1 : (1048576 : Int) < (s.size : Int)) :
    Calls Try.prog 3 #[.string s] w fun e w' => e = .returned (.bool true) ∧ Below w.heap.size w w' := by
  go_enter Try.func3, Try.ntmps3
  go_wp2
  go_ret
  exact ⟨rfl, Below.refl _ _⟩

set_option maxHeartbeats 400000 in
theorem hex_long (s : ByteArray) (w : World) (h1 : s.size ≤ 1048576) (h64 : ((s.size : Int) != 64) = true) :
    Calls Try.prog 3 #[.string s] w fun e w' => e = .returned (.bool true) ∧ Below w.heap.size w w' := by
  have hF : isTextB s = false := isTextB_no s (by simp at h64; omega)
  go_enter Try.func3, Try.ntmps3
  go_wp2_with (first
    | (go_at_call 6; go_must (refine (isText_any _ _ ?_).mono ?_; (focus (exact le_maxLen h1)); rintro e w2 ⟨rfl, rfl⟩))
    | go_in)
  go_ret
  exact ⟨rfl, Below.refl _ _⟩

theorem le_of_hid {s : ByteArray} (h : Hid (s.size = 64)) : s.size ≤ maxLen := by have := h.out; unfold maxLen; omega

set_option maxHeartbeats 400000 in
theorem hex_64 (s : ByteArray) (w : World) (h1 : s.size ≤ 1048576) (H64 : Hid (s.size = 64)) (h64 : ((s.size : Int) != 64) = false) :
    Calls Try.prog 3 #[.string s] w fun e w' => e = .returned (.bool true) ∧ Below w.heap.size w w' := by
  have hT := canon_text s H64.out
  have HC : Hid ((canonOf s).size = 64) := canonOf_size s H64.out
  go_enter Try.func3, Try.ntmps3
  go_wp2_with (first
    | (go_at_call 6; go_must (refine (isText_any _ _ ?_).mono ?_; (focus (first | exact le_of_hid H64 | exact le_of_hid HC)); rintro e w2 ⟨rfl, rfl⟩))
    | (go_at_call 7; go_must (refine (canon_any _ _ H64).mono ?_; rintro e w3 ⟨rfl, hb3⟩))
    | go_in)
  · go_ret
    exact ⟨rfl, hb3⟩
  · exact absurd (text_canon' s H64.out) (by assumption)

theorem hex_any (s : ByteArray) (hs : s.size ≤ maxLen) (w : World) :
    Calls Try.prog 3 #[.string s] w fun e w' => e = .returned (.bool true) ∧ Below w.heap.size w w' := by
  by_cases h : 1048576 < s.size
  · exact hex_out s (by unfold maxLen at hs; exact hs) w (by omega)
  · by_cases h64 : s.size = 64
    · exact hex_64 s w (by omega) h64 (by simp [h64])
    · exact hex_long s w (by omega) (by simp; omega)
end Go.Proofs.Qxb6627493a
