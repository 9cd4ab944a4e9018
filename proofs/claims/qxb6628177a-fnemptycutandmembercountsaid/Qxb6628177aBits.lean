import Derived.Test.Qxb6628177aInsert
import Derived.Laws.BitsAllLaws
namespace Go.Proofs.Qxb6628177a
open Go.ChangeShapes Go.WideShapes Go.ChangeAt Go.RowKit

/-- The number of set bits among the lowest f. -/
def pc : Nat → Nat → Nat
  | 0, _ => 0
  | f + 1, x => x % 2 + pc f (x / 2)

theorem pc_le (f x : Nat) : pc f x ≤ f := by
  induction f generalizing x with
  | zero => simp [pc]
  | succ f ih => have := ih (x / 2); simp only [pc]; omega

theorem pc_zero (f : Nat) : pc f 0 = 0 := by
  induction f with
  | zero => rfl
  | succ f ih => simp only [pc]; rw [show 0 / 2 = 0 from rfl, ih]

theorem pc_pos (f x : Nat) (h : x < 2 ^ f) (h0 : pc f x = 0) : x = 0 := by
  induction f generalizing x with
  | zero => simpa using h
  | succ f ih =>
    simp only [pc] at h0
    have := ih (x / 2) (by rw [Nat.pow_succ] at h; omega) (by omega)
    omega

theorem and_half (a b : Nat) : (a &&& b) / 2 = (a / 2) &&& (b / 2) := Nat.and_div_two
theorem and_mod2 (a b : Nat) : (a &&& b) % 2 = (a % 2) &&& (b % 2) := by
  have := Nat.and_mod_two_pow (a := a) (b := b) (n := 1)
  simpa using this

/-- 'x & (x - 1)' clears one bit. -/
theorem pc_clear (f x : Nat) (h : x < 2 ^ f) (h0 : x ≠ 0) : pc f (x &&& (x - 1)) + 1 = pc f x := by
  induction f generalizing x with
  | zero => simp at h; omega
  | succ f ih =>
    simp only [pc]
    rw [and_half, and_mod2]
    by_cases hx : x % 2 = 0
    · have e : (x - 1) / 2 = x / 2 - 1 := by omega
      have := ih (x / 2) (by rw [Nat.pow_succ] at h; omega) (by omega)
      rw [e, hx, Nat.zero_and]
      omega
    · have e : (x - 1) / 2 = x / 2 := by omega
      have e2 : (x - 1) % 2 = 0 := by omega
      rw [e, e2, Nat.and_zero, Nat.and_self]
      omega

/-- The members of the first n words. -/
def cnt (f : Nat → Int) : Nat → Nat
  | 0 => 0
  | n + 1 => cnt f n + pc 64 (f n).toNat

theorem cnt_le (f : Nat → Int) (n : Nat) : cnt f n ≤ 64 * n := by
  induction n with
  | zero => simp [cnt]
  | succ n ih => have := pc_le 64 (f n).toNat; simp only [cnt]; omega

theorem cnt_zero (f : Nat → Int) (n : Nat) (hf : ∀ q, q < n → 0 ≤ f q ∧ f q < 18446744073709551616) : cnt f n = 0 ↔ ∀ q, q < n → f q = 0 := by
  induction n with
  | zero => simp [cnt]
  | succ n ih =>
    simp only [cnt]
    have h1 := ih (fun q hq => hf q (by omega))
    have hn := hf n (by omega)
    constructor
    · intro h q hq
      by_cases e : q = n
      · subst e
        have := pc_pos 64 (f q).toNat (by have e64 : (2 : Nat) ^ 64 = 18446744073709551616 := by decide
                                          rw [e64]; omega) (by omega)
        omega
      · exact h1.1 (by omega) q (by omega)
    · intro h
      have e1 := h1.2 (fun q hq => h q (by omega))
      rw [e1, h n (by omega)]
      simp [pc_zero]

def u64Bound : Nat := 18446744073709551616
theorem u64Bound_eq : u64Bound = 2 ^ 64 := by decide

theorem and_pred (x : Nat) (h0 : 1 ≤ x) (h : x < u64Bound) : bits .and .u64 (x : Int) ((x : Int) - 1) = ((x &&& (x - 1) : Nat) : Int) := by
  have e : ((x : Int) - 1) = ((x - 1 : Nat) : Int) := by omega
  unfold u64Bound at h
  rw [e]
  exact u64_and_nat x (x - 1) h (by omega)

theorem and_lt (x : Nat) (h : x < u64Bound) : x &&& (x - 1) < u64Bound := Nat.lt_of_le_of_lt Nat.and_le_left h
end Go.Proofs.Qxb6628177a
