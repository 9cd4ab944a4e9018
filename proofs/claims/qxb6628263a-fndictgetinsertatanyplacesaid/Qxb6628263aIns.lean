import Derived.Test.Qxb6628263aPlain
import Derived.Test.Qxb6628263aSmall9
namespace Go.Proofs.Qxb6628263a
open Go.ChangeShapes Go.WideShapes Go.ChangeAt Go.RowKit

theorem ch {w a b : World} (h1 : Below w.heap.size w a) (h2 : Below a.heap.size a b) : Below w.heap.size w b := h1.trans (h2.mono h1.size)

/-- The entry put in at p; behind it as far as j. -/
def Es.ins (E : Es) (p : Nat) (x : ByteArray) (a : Option Addr) (l c j : Nat) : Es :=
  ⟨fun q => if q < p then E.k q else if q = p then x else if q ≤ j then E.k (q - 1) else ⟨#[]⟩,
   fun q => if q < p then E.a q else if q = p then a else if q ≤ j then E.a (q - 1) else none,
   fun q => if q < p then E.l q else if q = p then l else if q ≤ j then E.l (q - 1) else 0,
   fun q => if q < p then E.c q else if q = p then c else if q ≤ j then E.c (q - 1) else 0⟩

theorem ins_put {E : Es} {w : World} {g n p : Nat} {x : ByteArray} {a : Option Addr} {l c : Nat} (h : (E.upto p).Own w g n) (hp : p < n) :
    (E.ins p x a l c p).Own ((w.setCell ⟨g, p * 2, none⟩ (.string x)).setCell ⟨g, p * 2 + 1, none⟩ (.slice a l c)) g n := by
  refine h.put hp (by simp [Es.ins]) (by simp [Es.ins]) (by simp [Es.ins]) (by simp [Es.ins]) (fun i _ hne => ?_)
  simp only [Es.upto, Es.ins]
  by_cases h1 : i < p
  · simp [h1]
  · have h2 : ¬ i ≤ p := by omega
    simp [h1, hne, h2]

theorem ins_step {E : Es} {w : World} {g n p k : Nat} {x : ByteArray} {a : Option Addr} {l c : Nat} (h : (E.ins p x a l c k).Own w g n) (hk : k + 1 < n) (hp : p ≤ k) :
    (E.ins p x a l c (k + 1)).Own ((w.setCell ⟨g, (k + 1) * 2, none⟩ (.string (E.k k))).setCell ⟨g, (k + 1) * 2 + 1, none⟩ (.slice (E.a k) (E.l k) (E.c k))) g n := by
  have h1 : ¬ k + 1 < p := by omega
  have h2 : ¬ k + 1 = p := by omega
  refine h.put hk (by simp [Es.ins, h1, h2]) (by simp [Es.ins, h1, h2]) (by simp [Es.ins, h1, h2]) (by simp [Es.ins, h1, h2]) (fun i _ hne => ?_)
  simp only [Es.ins]
  by_cases h3 : i ≤ k
  · have h4 : i ≤ k + 1 := by omega
    simp [h3, h4]
  · have h4 : ¬ i ≤ k + 1 := by omega
    simp [h3, h4]

/-- What Get hands back where the first hit is f. -/
def Es.va (E : Es) (n f : Nat) : Option Addr := if f < n then E.a f else none
def Es.vl (E : Es) (n f : Nat) : Nat := if f < n then E.l f else 0
def Es.vc (E : Es) (n f : Nat) : Nat := if f < n then E.c f else 0
def Es.ok (_ : Es) (n f : Nat) : Bool := decide (f < n)

theorem get_first (E : Es) (ao : Option Addr) (n cap f : Nat) (key : ByteArray) (w : World) (hm : n ≤ 1048576) (hE : E.In w ao n) (hF : E.First key n f) :
    Calls Try.prog 7 #[.slice ao n cap, .string key] w fun e w' => e = .returned (.tuple #[.slice (E.va n f) (E.vl n f) (E.vc n f), .bool (E.ok n f)]) ∧ Below w.heap.size w w' := by
  by_cases hf : f < n
  · have := get_hit E ao n cap f key w hm hE hf hF
    simp only [Es.va, Es.vl, Es.vc, Es.ok, hf, if_true, decide_true]
    exact this
  · have e : f = n := by have := hF.1; omega
    subst e
    have := get_miss E ao f cap key w hm hE hF
    simp only [Es.va, Es.vl, Es.vc, Es.ok, Nat.lt_irrefl, if_false, decide_false]
    exact this

theorem got_ok {E : Es} {m n f : Nat} (hS : E.Ok m) (hnm : n ≤ m) : E.vl n f ≤ 9223372036854775807 ∧ (0 < E.vl n f → ∃ b off, E.va n f = some ⟨b, off, none⟩) := by
  unfold Es.vl Es.va
  by_cases h : f < n
  · rw [if_pos h, if_pos h]; exact hS f (by omega)
  · rw [if_neg h, if_neg h]; exact ⟨by omega, fun h => by omega⟩

theorem beq_swap (a b : List UInt8) : (a == b) = (b == a) := by rw [Bool.eq_iff_iff, beq_iff_eq, beq_iff_eq]; exact eq_comm

section
variable {E : Es} {key x : ByteArray} {a : Option Addr} {l c n p f : Nat}

theorem ins_hit_lt (h : f < p) : (E.ins p x a l c n).hit key f = E.hit key f := by simp [Es.hit, Es.ins, h]
theorem ins_hit_at : (E.ins p x a l c n).hit key p = (x.toList == key.toList) := by simp [Es.hit, Es.ins]
theorem ins_hit_gt (h : p ≤ f) (hn : f < n) : (E.ins p x a l c n).hit key (f + 1) = E.hit key f := by
  have h1 : ¬ f + 1 < p := by omega
  have h2 : ¬ f + 1 = p := by omega
  have h3 : f + 1 ≤ n := by omega
  simp [Es.hit, Es.ins, h1, h2, h3]

/-- The first hit of the longer row. -/
theorem ins_first_lt (hF : E.First key n f) (hp : p ≤ n) (hf : f < p) : (E.ins p x a l c n).First key (n + 1) f :=
  ⟨by omega, fun i hi => by rw [ins_hit_lt (by omega)]; exact hF.2.1 i hi, fun _ => by rw [ins_hit_lt hf]; exact hF.2.2 (by omega)⟩
theorem ins_first_at (hF : E.First key n f) (hf : p ≤ f) (hx : (x.toList == key.toList) = true) : (E.ins p x a l c n).First key (n + 1) p :=
  ⟨by have := hF.1; omega, fun i hi => by rw [ins_hit_lt hi]; exact hF.2.1 i (by omega), fun _ => by rw [ins_hit_at]; exact hx⟩
theorem ins_first_gt (hF : E.First key n f) (hf : p ≤ f) (hx : (x.toList == key.toList) = false) : (E.ins p x a l c n).First key (n + 1) (f + 1) := by
  refine ⟨by have := hF.1; omega, fun i hi => ?_, fun h => by rw [ins_hit_gt hf (by omega)]; exact hF.2.2 (by omega)⟩
  by_cases h1 : i < p
  · rw [ins_hit_lt h1]; exact hF.2.1 i (by omega)
  · by_cases h2 : i = p
    · subst h2; rw [ins_hit_at]; exact hx
    · obtain ⟨j, rfl⟩ : ∃ j, i = j + 1 := ⟨i - 1, by omega⟩
      have := hF.1
      rw [ins_hit_gt (by omega) (by omega)]; exact hF.2.1 j (by omega)

theorem ins_val_lt (hp : p ≤ n) (hf : f < p) : (E.ins p x a l c n).va (n + 1) f = E.va n f ∧ (E.ins p x a l c n).vl (n + 1) f = E.vl n f ∧ (E.ins p x a l c n).vc (n + 1) f = E.vc n f ∧ (E.ins p x a l c n).ok (n + 1) f = E.ok n f := by
  have h1 : f < n := by omega
  have h2 : f < n + 1 := by omega
  simp [Es.va, Es.vl, Es.vc, Es.ok, Es.ins, h1, h2, hf]
theorem ins_val_gt (hf : p ≤ f) : (E.ins p x a l c n).va (n + 1) (f + 1) = E.va n f ∧ (E.ins p x a l c n).vl (n + 1) (f + 1) = E.vl n f ∧ (E.ins p x a l c n).vc (n + 1) (f + 1) = E.vc n f ∧ (E.ins p x a l c n).ok (n + 1) (f + 1) = E.ok n f := by
  have h1 : ¬ f + 1 < p := by omega
  have h2 : ¬ f + 1 = p := by omega
  by_cases h : f < n
  · have h3 : f + 1 ≤ n := by omega
    simp [Es.va, Es.vl, Es.vc, Es.ok, Es.ins, h, h1, h2, h3]
  · simp [Es.va, Es.vl, Es.vc, Es.ok, h]
end

theorem get_same (E : Es) (n cap f p : Nat) (x key : ByteArray) (a : Option Addr) (l c g : Nat) (w : World) (hm : n + 1 ≤ 1048576) (hO : (E.ins p x a l c n).Own w g (n + 1)) (hF : E.First key n f) (hp : p ≤ n) (hP : (key.toList == x.toList) = true → f < p) :
    Calls Try.prog 7 #[.slice (some ⟨g, 0, none⟩) (n + 1) cap, .string key] w fun e w' => e = .returned (.tuple #[.slice (E.va n f) (E.vl n f) (E.vc n f), .bool (E.ok n f)]) ∧ Below w.heap.size w w' := by
  by_cases hf : f < p
  · have := get_first (E.ins p x a l c n) _ (n + 1) cap f key w hm (own_left hO (Nat.le_refl _)) (ins_first_lt hF hp hf)
    obtain ⟨e1, e2, e3, e4⟩ := ins_val_lt (E := E) (x := x) (a := a) (l := l) (c := c) hp hf
    rw [e1, e2, e3, e4] at this
    exact this
  · have hx : (x.toList == key.toList) = false := by
      rw [beq_swap]
      cases h : (key.toList == x.toList) with
      | false => rfl
      | true => exact absurd (hP h) hf
    have := get_first (E.ins p x a l c n) _ (n + 1) cap (f + 1) key w hm (own_left hO (Nat.le_refl _)) (ins_first_gt hF (by omega) hx)
    obtain ⟨e1, e2, e3, e4⟩ := ins_val_gt (E := E) (x := x) (a := a) (l := l) (c := c) (n := n) (p := p) (f := f) (by omega)
    rw [e1, e2, e3, e4] at this
    exact this

theorem get_new (E : Es) (n cap f p : Nat) (x key : ByteArray) (a : Option Addr) (l c g : Nat) (w : World) (hm : n + 1 ≤ 1048576) (hO : (E.ins p x a l c n).Own w g (n + 1)) (hF : E.First key n f) (hf : p ≤ f) (hx : (key.toList == x.toList) = true) :
    Calls Try.prog 7 #[.slice (some ⟨g, 0, none⟩) (n + 1) cap, .string key] w fun e w' => e = .returned (.tuple #[.slice a l c, .bool true]) ∧ Below w.heap.size w w' := by
  have h1 := ins_first_at (x := x) (a := a) (l := l) (c := c) hF hf (by rw [beq_swap]; exact hx)
  have hp : p < n + 1 := by have := hF.1; omega
  have := get_hit (E.ins p x a l c n) _ (n + 1) cap p key w hm (own_left hO (Nat.le_refl _)) hp h1
  simp only [Es.ins, Nat.lt_irrefl, if_false, if_true] at this
  exact this

/-- 'earlier' behind k rounds. -/
theorem early_step {E : Es} {key : ByteArray} {n f k : Nat} (hF : E.First key n f) (hk : k < n) (hh : ((E.k k).toList == key.toList) = false) : decide (f < k + 1) = decide (f < k) := by
  have : f ≠ k := fun e => by have := hF.2.2 (by omega); rw [e] at this; exact absurd (this.symm.trans hh) (by simp)
  rw [decide_eq_decide]; omega
theorem early_hit {E : Es} {key : ByteArray} {n f k : Nat} (hF : E.First key n f) (hh : ((E.k k).toList == key.toList) = true) : true = decide (f < k + 1) := by
  have : ¬ k < f := fun h => by have := hF.2.1 k h; exact absurd (this.symm.trans hh) (by simp)
  simp; omega
end Go.Proofs.Qxb6628263a
