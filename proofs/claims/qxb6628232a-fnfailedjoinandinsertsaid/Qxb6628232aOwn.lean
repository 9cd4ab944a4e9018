import Derived.Test.Qxb6628232aBytes
namespace Go.Proofs.Qxb6628232a
open Go.ChangeShapes Go.WideShapes Go.ChangeAt Go.RowKit

/-- The cells of the first m elements. -/
def Rs.cells (T : Rs) : Nat → List Value
  | 0 => []
  | m + 1 => T.cells m ++ [.string (T.r m), .string (T.s m), .string (T.d m)]

theorem Rs.cells_length (T : Rs) (m : Nat) : (T.cells m).length = m * 3 := by
  induction m with
  | zero => rfl
  | succ m ih => simp only [Rs.cells, List.length_append, ih]; simp; omega

theorem Rs.cells_get (T : Rs) (m i : Nat) (h : i < m) : (T.cells m)[i * 3]? = some (.string (T.r i)) ∧ (T.cells m)[i * 3 + 1]? = some (.string (T.s i)) ∧ (T.cells m)[i * 3 + 1 + 1]? = some (.string (T.d i)) := by
  induction m with
  | zero => omega
  | succ m ih =>
    have hl := T.cells_length m
    by_cases e : i = m
    · subst e
      simp only [Rs.cells]
      refine ⟨?_, ?_, ?_⟩
      · rw [List.getElem?_append_right (by omega)]; simp [hl]
      · rw [List.getElem?_append_right (by omega)]; simp [hl]
      · rw [List.getElem?_append_right (by omega)]; simp [hl, Nat.add_assoc]
    · obtain ⟨h1, h2, h3⟩ := ih (by omega)
      simp only [Rs.cells]
      exact ⟨by rw [List.getElem?_append_left (by omega)]; exact h1, by rw [List.getElem?_append_left (by omega)]; exact h2, by rw [List.getElem?_append_left (by omega)]; exact h3⟩

theorem Rs.cells_congr {T U : Rs} {m : Nat} (h : ∀ i, i < m → T.r i = U.r i ∧ T.s i = U.s i ∧ T.d i = U.d i) : T.cells m = U.cells m := by
  induction m with
  | zero => rfl
  | succ m ih =>
    obtain ⟨h1, h2, h3⟩ := h m (by omega)
    simp only [Rs.cells, ih (fun i hi => h i (by omega)), h1, h2, h3]

/-- The slice at the head of block g, m elements long, room for cap, holds the first m elements of T. -/
def Rs.Own (T : Rs) (w : World) (g m cap : Nat) : Prop := w.ownsRow g 32 3 (.slice (some ⟨g, 0, none⟩) m cap) m (T.cells m)

theorem Rs.Own.below {T : Rs} {w w' : World} {g m cap B : Nat} (h : T.Own w g m cap) (hb : Below B w w') (hg : g < B) : T.Own w' g m cap := by
  obtain ⟨h1, h2⟩ := h
  refine ⟨h1, ?_⟩
  rcases h2 with ⟨h', _⟩ | ⟨g', cap', cur, hv, hg', hh, r⟩
  · simp at h'
  · have e : g' = g := by simp only [Value.slice.injEq, Option.some.injEq, Addr.mk.injEq] at hv; exact hv.1.1.symm
    subst e
    exact Or.inr ⟨g', cap', cur, hv, hg', by rw [hb.block g' hg]; exact hh, r⟩

theorem Rs.Own.lt {T : Rs} {w : World} {g m cap : Nat} (h : T.Own w g m cap) : g < w.heap.size := (World.ownsRow.lt h _ rfl).2

theorem Rs.Own.kept {T : Rs} {w w' : World} {g m cap : Nat} {row : Option Nat} (h : T.Own w g m cap) (hg : w.grownBy w' row) (hne : row ≠ some g) : T.Own w' g m cap :=
  World.ownsRow.kept h hg (.inr (fun e => hne e.symm))

theorem Rs.Own.at {T : Rs} {w : World} {g m cap : Nat} (h : T.Own w g m cap) : T.At w g 0 m := fun i hi => by
  obtain ⟨h1, h2, h3⟩ := T.cells_get m i hi
  rw [Nat.zero_add]
  exact ⟨by rw [World.ownsRow.cellAt h (i * 3) (by omega)]; exact h1, by rw [World.ownsRow.cellAt h (i * 3 + 1) (by omega)]; exact h2, by rw [World.ownsRow.cellAt h (i * 3 + 1 + 1) (by omega)]; exact h3⟩

theorem Rs.Own.congr {T U : Rs} {w : World} {g m cap : Nat} (h : T.Own w g m cap) (e : ∀ i, i < m → T.r i = U.r i ∧ T.s i = U.s i ∧ T.d i = U.d i) : U.Own w g m cap := by
  unfold Rs.Own at *
  rw [← Rs.cells_congr e]; exact h

theorem Rs.Own.grow {T U : Rs} {w : World} {g m cap : Nat} {r s d : ByteArray} (h : w.ownsRow g 32 3 (.slice (some ⟨g, 0, none⟩) (m + 1) cap) (m + 1) (T.cells m ++ [.string r, .string s, .string d]))
    (e : ∀ i, i < m → T.r i = U.r i ∧ T.s i = U.s i ∧ T.d i = U.d i) (er : U.r m = r) (es : U.s m = s) (ed : U.d m = d) : U.Own w g (m + 1) cap := by
  unfold Rs.Own
  simp only [Rs.cells, er, es, ed]
  rw [← Rs.cells_congr e]; exact h

theorem Rs.own_made {T : Rs} {w w1 : World} {cap : Nat} (h : w1.ownsRow w.heap.size 32 3 (.slice (some ⟨w.heap.size, 0, none⟩) 0 cap) 0 []) (hg : w.grownBy w1 none) : T.Own w1 w.heap.size 0 cap ∧ Below w.heap.size w w1 :=
  ⟨h, (Below.refl _ _).grown hg (Nat.le_refl _) (fun k h => by cases h)⟩

/-- What the three cells of a new one-element slice hold. -/
theorem new_cells (w : World) (r s d : ByteArray) : ∀ (j : Nat) (u : Value), ([.string r, .string s, .string d] : List Value)[j]? = some u → (w.alloc (.cells #[.string r, .string s, .string d] 32)).cell? ((⟨w.heap.size, 0, none⟩ : Addr).add j) = some u := by
  intro j u hj
  match j, hj with
  | 0, hj => simp at hj; subst hj; simp [Addr.add]
  | 1, hj => simp at hj; subst hj; simp [Addr.add]
  | 2, hj => simp at hj; subst hj; simp [Addr.add]

theorem one_cells (r s d : ByteArray) : ∀ u ∈ ([.string r, .string s, .string d] : List Value), u.oneCell' = true := by
  intro u hu; simp at hu; rcases hu with rfl | rfl | rfl <;> rfl

theorem below_grown {B g : Nat} {w0 w w' : World} (h : Below B w0 w) (hg : w.grownBy w' (some g)) (hB : B ≤ w.heap.size) (hBg : B ≤ g) : Below B w0 w' :=
  h.grown hg hB (fun k e => by cases e; exact hBg)
end Go.Proofs.Qxb6628232a
