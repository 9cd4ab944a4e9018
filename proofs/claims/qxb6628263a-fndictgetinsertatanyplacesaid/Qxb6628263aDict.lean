import Derived.Test.Qxb6628263aGet
namespace Go.Proofs.Qxb6628263a
open Go.ChangeShapes Go.WideShapes Go.ChangeAt Go.RowKit

theorem Try.info34 : (Try.prog.info? 34).map (fun i => (i.zero, i.size, i.bytes)) = some (some (.agg #[.string ⟨#[]⟩, .slice none 0 0]), 2, 40) := by kernel_rfl

/-- The keys, the values as they came in. -/
def Es.KIn (E : Es) (w : World) (ko : Option Addr) (n : Nat) : Prop := 0 < n → ∃ b off, ko = some ⟨b, off, none⟩ ∧ b < w.heap.size ∧ ∀ i, i < n → w.cell? ⟨b, off + i, none⟩ = some (.string (E.k i))
def Es.VIn (E : Es) (w : World) (vo : Option Addr) (n : Nat) : Prop := 0 < n → ∃ b off, vo = some ⟨b, off, none⟩ ∧ b < w.heap.size ∧ ∀ i, i < n → w.cell? ⟨b, off + i, none⟩ = some (.slice (E.a i) (E.l i) (E.c i))

theorem Es.KIn.below {E : Es} {w w' : World} {ko : Option Addr} {n : Nat} (h : E.KIn w ko n) (hb : Below w.heap.size w w') : E.KIn w' ko n := fun h0 => by
  obtain ⟨b, off, rfl, hlt, hc⟩ := h h0
  exact ⟨b, off, rfl, Nat.lt_of_lt_of_le hlt hb.size, fun i hi => (hb.cell (p := ⟨b, off + i, none⟩) hlt).trans (hc i hi)⟩
theorem Es.VIn.below {E : Es} {w w' : World} {vo : Option Addr} {n : Nat} (h : E.VIn w vo n) (hb : Below w.heap.size w w') : E.VIn w' vo n := fun h0 => by
  obtain ⟨b, off, rfl, hlt, hc⟩ := h h0
  exact ⟨b, off, rfl, Nat.lt_of_lt_of_le hlt hb.size, fun i hi => (hb.cell (p := ⟨b, off + i, none⟩) hlt).trans (hc i hi)⟩

/-- The cells of the first m entries. -/
def Es.cells (E : Es) : Nat → List Value
  | 0 => []
  | m + 1 => E.cells m ++ [.string (E.k m), .slice (E.a m) (E.l m) (E.c m)]

theorem Es.cells_length (E : Es) (m : Nat) : (E.cells m).length = m * 2 := by
  induction m with
  | zero => rfl
  | succ m ih => simp only [Es.cells, List.length_append, ih]; simp; omega

theorem Es.cells_get (E : Es) (m i : Nat) (h : i < m) : (E.cells m)[i * 2]? = some (.string (E.k i)) ∧ (E.cells m)[i * 2 + 1]? = some (.slice (E.a i) (E.l i) (E.c i)) := by
  induction m with
  | zero => omega
  | succ m ih =>
    have hl := E.cells_length m
    by_cases e : i = m
    · subst e
      simp only [Es.cells]
      refine ⟨?_, ?_⟩
      · rw [List.getElem?_append_right (by omega)]; simp [hl]
      · rw [List.getElem?_append_right (by omega)]; simp [hl]
    · obtain ⟨h1, h2⟩ := ih (by omega)
      simp only [Es.cells]
      exact ⟨by rw [List.getElem?_append_left (by omega)]; exact h1, by rw [List.getElem?_append_left (by omega)]; exact h2⟩

theorem Es.cells_ext (E : Es) (m : Nat) (L : List Value) (hl : L.length = m * 2) (h : ∀ i, i < m → L[i * 2]? = some (.string (E.k i)) ∧ L[i * 2 + 1]? = some (.slice (E.a i) (E.l i) (E.c i))) : L = E.cells m := by
  apply List.ext_getElem?
  intro j
  have hc := E.cells_length m
  by_cases hj : j < m * 2
  · obtain ⟨i, h2 | h2⟩ : ∃ i, j = i * 2 ∨ j = i * 2 + 1 := ⟨j / 2, by omega⟩
    · subst h2
      rw [(h i (by omega)).1, (E.cells_get m i (by omega)).1]
    · subst h2
      rw [(h i (by omega)).2, (E.cells_get m i (by omega)).2]
  · rw [List.getElem?_eq_none (by omega), List.getElem?_eq_none (by omega)]

/-- The first n entries lie in block g, at its head. -/
def Es.Own (E : Es) (w : World) (g n : Nat) : Prop := w.ownsRow g 34 2 (.slice (some ⟨g, 0, none⟩) n n) n (E.cells n)

theorem Es.Own.lt {E : Es} {w : World} {g n : Nat} (h : E.Own w g n) : g < w.heap.size := (World.ownsRow.lt h _ rfl).2
theorem Es.Own.frozen {E : Es} {w : World} {g n : Nat} (h : E.Own w g n) (q : Nat) : w.frozen? ⟨g, q, none⟩ = false := World.ownsRow.frozenAt h q
theorem Es.Own.at {E : Es} {w : World} {g n : Nat} (h : E.Own w g n) : E.At w g 0 n := fun i hi => by
  obtain ⟨h1, h2⟩ := E.cells_get n i hi
  rw [Nat.zero_add]
  exact ⟨by rw [World.ownsRow.cellAt h (i * 2) (by omega)]; exact h1, by rw [World.ownsRow.cellAt h (i * 2 + 1) (by omega)]; exact h2⟩
theorem Es.Own.below {E : Es} {w w' : World} {g n B : Nat} (h : E.Own w g n) (hb : Below B w w') (hg : g < B) : E.Own w' g n := by
  obtain ⟨h1, h2⟩ := h
  refine ⟨h1, ?_⟩
  rcases h2 with ⟨h', _⟩ | ⟨g', cap', cur, hv, hg', hh, r⟩
  · simp at h'
  · have e : g' = g := by simp only [Value.slice.injEq, Option.some.injEq, Addr.mk.injEq] at hv; exact hv.1.1.symm
    subst e
    exact Or.inr ⟨g', cap', cur, hv, hg', by rw [hb.block g' hg]; exact hh, r⟩
/-- One entry stored. -/
theorem Es.Own.put {E F : Es} {w : World} {g n j : Nat} {x : ByteArray} {a : Option Addr} {l c : Nat} (h : E.Own w g n) (hj : j < n) (hx : F.k j = x) (ha : F.a j = a) (hl : F.l j = l) (hc : F.c j = c)
    (ho : ∀ i, i < n → i ≠ j → F.k i = E.k i ∧ F.a i = E.a i ∧ F.l i = E.l i ∧ F.c i = E.c i) :
    F.Own ((w.setCell ⟨g, j * 2, none⟩ (.string x)).setCell ⟨g, j * 2 + 1, none⟩ (.slice a l c)) g n := by
  have h1 := (World.ownsRow.stored h (j * 2) (.string x)).1
  have h2 := (h1.stored (j * 2 + 1) (.slice a l c)).1
  have e := F.cells_ext n (((E.cells n).set (j * 2) (.string x)).set (j * 2 + 1) (.slice a l c)) (by simp [E.cells_length]) (fun i hi => by
    have hL := E.cells_length n
    by_cases e : i = j
    · subst e
      rw [List.getElem?_set_ne (by omega), List.getElem?_set_self (by omega), List.getElem?_set_self (by simp; omega), hx, ha, hl, hc]
      exact ⟨rfl, rfl⟩
    · obtain ⟨o1, o2, o3, o4⟩ := ho i hi e
      obtain ⟨g1, g2⟩ := E.cells_get n i hi
      rw [List.getElem?_set_ne (by omega), List.getElem?_set_ne (by omega), List.getElem?_set_ne (by omega), List.getElem?_set_ne (by omega), g1, g2, o1, o2, o3, o4]
      exact ⟨rfl, rfl⟩)
  rw [e] at h2
  exact h2

/-- Zero entries from k on. -/
def Es.upto (E : Es) (k : Nat) : Es := ⟨fun i => if i < k then E.k i else ⟨#[]⟩, fun i => if i < k then E.a i else none, fun i => if i < k then E.l i else 0, fun i => if i < k then E.c i else 0⟩

theorem made_zero (E : Es) (n : Nat) : (madeCells (Value.agg #[.string ⟨#[]⟩, .slice none 0 0]).cells (n * 2)).toList = (E.upto 0).cells n := by
  refine Es.cells_ext _ n _ (by simp [madeCells]) (fun i hi => ?_)
  have e0 : i * 2 % 2 = 0 := by omega
  have e1 : (i * 2 + 1) % 2 = 1 := by omega
  have l0 : i * 2 < n * 2 := by omega
  have l1 : i * 2 + 1 < n * 2 := by omega
  simp [madeCells, Value.cells, Es.upto, e0, e1, l0, l1]

theorem Es.own_made {E : Es} {w w1 : World} {n : Nat} (h : w1.ownsRow w.heap.size 34 2 (.slice (some ⟨w.heap.size, 0, none⟩) n n) n (madeCells (Value.agg #[.string ⟨#[]⟩, .slice none 0 0]).cells (n * 2)).toList) (hg : w.grownBy w1 none) :
    (E.upto 0).Own w1 w.heap.size n ∧ Below w.heap.size w w1 := by
  rw [made_zero E n] at h
  exact ⟨h, (Below.refl _ _).grown hg (Nat.le_refl _) (fun k h => by cases h)⟩
end Go.Proofs.Qxb6628263a
