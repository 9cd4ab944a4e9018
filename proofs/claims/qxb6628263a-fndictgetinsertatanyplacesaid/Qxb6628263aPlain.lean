import Derived.Test.Qxb6628263aSmall5
namespace Go.Proofs.Qxb6628263a
open Go.ChangeShapes Go.WideShapes Go.ChangeAt Go.RowKit

/-- Entry i bears the key. -/
def Es.hit (E : Es) (key : ByteArray) (i : Nat) : Bool := (E.k i).toList == key.toList

/-- f is the least index below n at which the key stands, or n. -/
def Es.First (E : Es) (key : ByteArray) (n f : Nat) : Prop := f ≤ n ∧ (∀ i, i < f → E.hit key i = false) ∧ (f < n → E.hit key f = true)

theorem Es.first_ex (E : Es) (key : ByteArray) (n : Nat) : ∃ f, E.First key n f := by
  induction n with
  | zero => exact ⟨0, Nat.le_refl _, fun i hi => by omega, fun h => by omega⟩
  | succ n ih =>
    obtain ⟨f, h1, h2, h3⟩ := ih
    by_cases hf : f < n
    · exact ⟨f, by omega, h2, fun _ => h3 hf⟩
    · obtain rfl : f = n := by omega
      by_cases hh : E.hit key f = true
      · exact ⟨f, by omega, h2, fun _ => hh⟩
      · refine ⟨f + 1, Nat.le_refl _, fun i hi => ?_, fun h => by omega⟩
        by_cases e : i = f
        · subst e; simpa using hh
        · exact h2 i (by omega)

def Es.drop (E : Es) (c : Nat) : Es := ⟨fun i => E.k (c + i), fun i => E.a (c + i), fun i => E.l (c + i), fun i => E.c (c + i)⟩

theorem own_left {E : Es} {w : World} {g n c : Nat} (h : E.Own w g n) (hc : c ≤ n) : E.In w (some ⟨g, 0, none⟩) c := fun _ => ⟨g, 0, rfl, h.lt, fun i hi => h.at i (by omega)⟩
theorem own_right {E : Es} {w : World} {g n c : Nat} {ao : Option Addr} (h : E.Own w g n) (hao : c < n → ao = some ⟨g, c * 2, none⟩) : (E.drop c).In w ao (n - c) := fun h0 =>
  ⟨g, c * 2, hao (by omega), h.lt, fun i hi => by
    have := h.at (c + i) (by omega)
    rw [Nat.zero_add, show (c + i) * 2 = c * 2 + i * 2 by omega] at this
    exact this⟩

/-- What Get hands back where the first hit is f. -/
def Es.got (E : Es) (n f : Nat) : Value := if f < n then .slice (E.a f) (E.l f) (E.c f) else .slice none 0 0

theorem get_hit (E : Es) (ao : Option Addr) (n cap f : Nat) (key : ByteArray) (w : World) (hm : n ≤ 1048576) (hE : E.In w ao n) (hf : f < n) (hF : E.First key n f) :
    Calls Try.prog 7 #[.slice ao n cap, .string key] w fun e w' => e = .returned (.tuple #[.slice (E.a f) (E.l f) (E.c f), .bool true]) ∧ Below w.heap.size w w' :=
  get_at E ao n cap f key w hm hE hf (fun i hi => hF.2.1 i hi) (hF.2.2 hf)

theorem get_miss (E : Es) (ao : Option Addr) (n cap : Nat) (key : ByteArray) (w : World) (hm : n ≤ 1048576) (hE : E.In w ao n) (hF : E.First key n n) :
    Calls Try.prog 7 #[.slice ao n cap, .string key] w fun e w' => e = .returned (.tuple #[.slice none 0 0, .bool false]) ∧ Below w.heap.size w w' :=
  get_none E ao n cap key w hm hE (fun i hi => hF.2.1 i hi)

theorem get_some (E : Es) (ao : Option Addr) (n cap : Nat) (key : ByteArray) (w : World) (hm : n ≤ 1048576) (hE : E.In w ao n) :
    Calls Try.prog 7 #[.slice ao n cap, .string key] w fun e w' => (∃ (a : Option Addr) (l c : Nat) (o : Bool), e = .returned (.tuple #[.slice a l c, .bool o])) ∧ Below w.heap.size w w' := by
  obtain ⟨f, hF⟩ := E.first_ex key n
  by_cases hf : f < n
  · exact (get_hit E ao n cap f key w hm hE hf hF).mono fun e w' ⟨he, hb⟩ => ⟨⟨_, _, _, _, he⟩, hb⟩
  · have hF' : E.First key n n := by have := hF.1; obtain rfl : f = n := by omega
                                     exact hF
    exact (get_miss E ao n cap key w hm hE hF').mono fun e w' ⟨he, hb⟩ => ⟨⟨_, _, _, _, he⟩, hb⟩

theorem first_left {E : Es} {key : ByteArray} {n f c : Nat} (h : E.First key n f) (hc : c ≤ n) (hf : f < c) : E.First key c f := ⟨by omega, h.2.1, fun _ => h.2.2 (by omega)⟩
theorem first_left_none {E : Es} {key : ByteArray} {n f c : Nat} (h : E.First key n f) (hf : c ≤ f) : E.First key c c := ⟨Nat.le_refl _, fun i hi => h.2.1 i (by omega), fun h => by omega⟩
theorem first_right {E : Es} {key : ByteArray} {n f c : Nat} (h : E.First key n f) (hc : c ≤ f) : (E.drop c).First key (n - c) (f - c) :=
  ⟨by have := h.1; omega, fun i hi => h.2.1 (c + i) (by omega), fun hf => by
    have := h.2.2 (by omega)
    show E.hit key (c + (f - c)) = true
    rwa [show c + (f - c) = f by omega]⟩

theorem get_right (E : Es) (ao : Option Addr) (n c cap f : Nat) (key : ByteArray) (w : World) (hm : n - c ≤ 1048576) (hE : (E.drop c).In w ao (n - c)) (hc : c ≤ f) (hf : f < n) (hF : E.First key n f) :
    Calls Try.prog 7 #[.slice ao (n - c) cap, .string key] w fun e w' => e = .returned (.tuple #[.slice (E.a f) (E.l f) (E.c f), .bool true]) ∧ Below w.heap.size w w' := by
  have := get_hit (E.drop c) ao (n - c) cap (f - c) key w hm hE (by omega) (first_right hF hc)
  simp only [Es.drop] at this
  rw [show c + (f - c) = f by omega] at this
  exact this

/-- idx, when the counter of the last loop stands at z: the least hit behind z, or -1. -/
def Es.Idx (E : Es) (key : ByteArray) (n : Nat) (z x : Int) : Prop :=
  (x = -1 ∧ ∀ q : Nat, z < (q : Int) → q < n → E.hit key q = false) ∨
  ∃ q : Nat, x = (q : Int) ∧ z < (q : Int) ∧ q < n ∧ E.hit key q = true ∧ ∀ r : Nat, z < (r : Int) → r < q → E.hit key r = false

theorem idx_start (E : Es) (key : ByteArray) (n : Nat) : E.Idx key n ((n : Int) - 1) (-1) := .inl ⟨rfl, fun q h1 h2 => by omega⟩
theorem idx_hit {E : Es} {key : ByteArray} {n t : Nat} (ht : t < n) (hh : ((E.k t).toList == key.toList) = true) : E.Idx key n ((t : Int) - 1) (t : Int) :=
  .inr ⟨t, rfl, by omega, ht, hh, fun r h1 h2 => by omega⟩
theorem idx_miss {E : Es} {key : ByteArray} {n t : Nat} {x : Int} (h : E.Idx key n (t : Int) x) (hh : ((E.k t).toList == key.toList) = false) : E.Idx key n ((t : Int) - 1) x := by
  rcases h with ⟨h1, h2⟩ | ⟨q, h1, h2, h3, h4, h5⟩
  · refine .inl ⟨h1, fun q hq hn => ?_⟩
    by_cases e : q = t
    · subst e; exact hh
    · exact h2 q (by omega) hn
  · refine .inr ⟨q, h1, by omega, h3, h4, fun r hr hrq => ?_⟩
    by_cases e : r = t
    · subst e; exact hh
    · exact h5 r (by omega) hrq
theorem idx_found {E : Es} {key : ByteArray} {n f : Nat} {z x : Int} (hz : z < 0) (h : E.Idx key n z x) (hF : E.First key n f) (hf : f < n) : x = (f : Int) := by
  have hh := hF.2.2 hf
  rcases h with ⟨_, h2⟩ | ⟨q, h1, h2, h3, h4, h5⟩
  · have := h2 f (by omega) hf; rw [hh] at this; cases this
  · by_cases l : f < q
    · have := h5 f (by omega) l; rw [hh] at this; cases this
    · by_cases l2 : q < f
      · have := hF.2.1 q l2; rw [h4] at this; cases this
      · rw [h1]; omega
theorem idx_none {E : Es} {key : ByteArray} {n : Nat} {z x : Int} (h : E.Idx key n z x) (hF : E.First key n n) : x = -1 := by
  rcases h with ⟨h1, _⟩ | ⟨q, h1, h2, h3, h4, h5⟩
  · exact h1
  · have := hF.2.1 q h3; rw [h4] at this; cases this

/-- What the values' own memory is worth: 'len' fits; where there is a byte there is an address. -/
def Es.Ok (E : Es) (m : Nat) : Prop := ∀ i, i < m → E.l i ≤ 9223372036854775807 ∧ (0 < E.l i → ∃ b off, E.a i = some ⟨b, off, none⟩)
end Go.Proofs.Qxb6628263a
