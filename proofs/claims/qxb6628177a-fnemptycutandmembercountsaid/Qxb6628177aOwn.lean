import Derived.Test.Qxb6628177aEmpty
namespace Go.Proofs.Qxb6628177a
open Go.ChangeShapes Go.WideShapes Go.ChangeAt Go.RowKit

theorem Try.info27 : (Try.prog.info? 27).map (fun i => (i.zero, i.size, i.bytes)) = some (some (.int .u64 0), 1, 8) := by kernel_rfl
theorem Try.size27 : (Try.prog.info? 27).map (·.size) = some 1 := by kernel_rfl

/-- A row of n words, word q being f q. -/
def row (f : Nat → Int) (n : Nat) : List Value := (List.range n).map fun q => Value.int .u64 (f q)

theorem row_length (f : Nat → Int) (n : Nat) : (row f n).length = n := by simp [row]

theorem row_get (f : Nat → Int) (n q : Nat) (h : q < n) : (row f n)[q]? = some (.int .u64 (f q)) := by simp [row, h]

theorem row_set (f g : Nat → Int) (n k : Nat) (v : Int) (h : ∀ q, q < n → g q = if q = k then v else f q) : (row f n).set k (.int .u64 v) = row g n := by
  apply List.ext_getElem?
  intro q
  by_cases hq : q < n
  · rw [row_get g n q hq, List.getElem?_set]
    by_cases e : k = q
    · subst e; rw [if_pos rfl, if_pos (by rw [row_length]; exact hq), h k hq, if_pos rfl]
    · rw [if_neg e, row_get f n q hq, h q hq, if_neg (fun e' => e e'.symm)]
  · rw [List.getElem?_eq_none (by simp [row_length]; omega), List.getElem?_eq_none (by simp [row_length]; omega)]

theorem made_row (n : Nat) : (madeCells (Value.int .u64 0).cells (n * 1)).toList = row (fun _ => 0) n := by
  have := toList_madeCells_one (.int .u64 0) n
  have e : (Value.int .u64 0).cells = #[Value.int .u64 0] := rfl
  rw [e, Nat.mul_one, this]
  simp [row, List.map_const']

theorem heap_of_owns {w : World} {base g n : Nat} {e : TypeId} {xs : List Value} (h : w.ownsRow base e 1 (.slice (some ⟨g, 0, none⟩) n n) n xs) : w.heap[g]? = some (.cells xs.toArray e (0, 0)) := by
  rcases h.2 with ⟨h', _⟩ | ⟨g', cap', cur, h', _, hg, _, _, hcs, htake⟩
  · simp at h'
  · simp only [Value.slice.injEq, Option.some.injEq, Addr.mk.injEq, and_true, true_and] at h'
    obtain ⟨rfl, rfl⟩ := h'
    rw [hg, ← htake, List.take_of_length_le (by simp [hcs])]

theorem owns_of_heap {w : World} {base g n : Nat} {e : TypeId} {xs : List Value} (hb : base ≤ g) (hm : n ≤ maxLen) (hl : xs.length = n) (h : w.heap[g]? = some (.cells xs.toArray e (0, 0))) : w.ownsRow base e 1 (.slice (some ⟨g, 0, none⟩) n n) n xs :=
  ⟨by simpa using hl, .inr ⟨g, n, xs.toArray, rfl, hb, h, Nat.le_refl _, hm, by simpa using hl, by rw [Nat.mul_one]; exact List.take_of_length_le (by simp [hl])⟩⟩

theorem splice_all {α : Type} (L cs : List α) (h : cs.length = L.length) : splice L 0 cs = cs := by simp [splice, h]

theorem cells_of_owns {w : World} {base g n : Nat} {f : Nat → Int} (h : w.ownsRow base 27 1 (.slice (some ⟨g, 0, none⟩) n n) n (row f n)) (q : Nat) (hq : q < n) : w.cell? ⟨g, q, none⟩ = some (.int .u64 (f q)) := by
  rw [h.cellAt q (by omega), row_get f n q hq]

theorem reads_of_owns {w : World} {base g n : Nat} {f : Nat → Int} (h : w.ownsRow base 27 1 (.slice (some ⟨g, 0, none⟩) n n) n (row f n)) : Reads w (some ⟨g, 0, none⟩) n ((List.range n).map f) := by
  refine ⟨by simp, fun _ => ⟨g, 0, rfl, fun i hi => ?_⟩⟩
  rw [Nat.zero_add, cells_of_owns h i hi]
  simp [List.getD, hi]

theorem allZ_range (f : Nat → Int) (n : Nat) : allZ ((List.range n).map f) = true ↔ ∀ q, q < n → f q = 0 := by
  simp [allZ]

theorem Reads.below {w w' : World} {b off len B : Nat} {zs : List Int} (h : Reads w (some ⟨b, off, none⟩) len zs) (hb : Below B w w') (hB : b < B) : Reads w' (some ⟨b, off, none⟩) len zs := by
  obtain ⟨hl, hr⟩ := h
  refine ⟨hl, fun h0 => ?_⟩
  obtain ⟨b', off', e, hc⟩ := hr h0
  simp only [Option.some.injEq, Addr.mk.injEq, and_true] at e
  obtain ⟨rfl, rfl⟩ := e
  exact ⟨b, off, rfl, fun i hi => (hb.cell (p := ⟨b, off + i, none⟩) hB).trans (hc i hi)⟩

/-- The block B holds the row of the n words f. -/
def Own (w : World) (B n : Nat) (f : Nat → Int) : Prop := w.ownsRow B 27 1 (.slice (some ⟨B, 0, none⟩) n n) n (row f n)

theorem Own.cell {w : World} {B n : Nat} {f : Nat → Int} (h : Own w B n f) (q : Nat) (hq : q < n) : w.cell? ⟨B, q, none⟩ = some (.int .u64 (f q)) := cells_of_owns h q hq
theorem Own.frozen {w : World} {B n : Nat} {f : Nat → Int} (h : Own w B n f) (q : Nat) : w.frozen? ⟨B, q, none⟩ = false := World.ownsRow.frozenAt h q
theorem Own.put {w : World} {B n : Nat} {f : Nat → Int} (h : Own w B n f) {k : Nat} {v : Int} {g : Nat → Int} (hg : (row f n).set k (.int .u64 v) = row g n) : Own (w.setCell ⟨B, k, none⟩ (.int .u64 v)) B n g := by
  have := (World.ownsRow.stored h k (.int .u64 v)).1
  rw [hg] at this
  exact this
theorem Own.lt {w : World} {B n : Nat} {f : Nat → Int} (h : Own w B n f) : B < w.heap.size := (World.ownsRow.lt h _ rfl).2
theorem Own.reads {w : World} {B n : Nat} {f : Nat → Int} (h : Own w B n f) : Reads w (some ⟨B, 0, none⟩) n ((List.range n).map f) := reads_of_owns h
end Go.Proofs.Qxb6628177a
