import Derived.Test.Qxb6628263aPlain
import Derived.Deep.Strs
import Derived.Deep.Matrix
namespace Go.Proofs.Qxb6628263a
open Go.ChangeShapes Go.WideShapes Go.ChangeAt Go.RowKit

theorem Try.cells9 : Try.prog.cellsOf 9 = 1 := by kernel_rfl
theorem Try.cells25 : Try.prog.cellsOf 25 = 1 := by kernel_rfl
theorem Try.cells5 : Try.prog.cellsOf 5 = 1 := by kernel_rfl

theorem plain_max {n : Nat} (h : n ≤ maxLen) : n ≤ 9223372036854775807 := by unfold maxLen at h; exact h

section
variable {H : Type} {enc : TypeId × Value → H} {w : World} {base : Nat} {held : Bool}

theorem open_keys {fuel : Nat} {ko : Option Addr} {n ck : Nat} {x : DataW H × List MemPlace} (h : DataW.trod enc Try.prog w base (fun _ => true) held fuel 22 [.slice ko n ck] = some x) :
    n ≤ 9223372036854775807 ∧ ∃ K : Nat → ByteArray, ∀ a l c, (Es.mk K a l c).KIn w ko n := by
  rcases Deep.open_strs Try.underlying22 Try.underlying9 Try.cells9 h with ⟨hcs, _⟩ | ⟨a, len, cap, m, Sx, hcs, hb, hl, hm, hmm, _, hx⟩
  · simp at hcs
    obtain ⟨rfl, rfl, rfl⟩ := hcs
    exact ⟨by omega, fun _ => ByteArray.empty, fun _ _ _ h => by omega⟩
  · simp at hcs
    obtain ⟨rfl, rfl, rfl⟩ := hcs
    simp only [if_true] at hmm
    subst hmm
    refine ⟨plain_max (Nat.le_trans hl hm), Sx, fun _ _ _ h0 => ?_⟩
    obtain ⟨b, off, spot⟩ := a
    have hsp : spot = none := by simpa [Addr.add] using World.cell?_spot (hx 0 (by omega)).1
    subst hsp
    have hbl : b < w.heap.size := by have := World.block_lt_of_cell? w _ (hx 0 (by omega)).1; rw [add_plain] at this; exact this
    refine ⟨b, off, rfl, hbl, fun i hi => ?_⟩
    have := (hx i (by omega)).1
    rw [add_plain] at this
    exact this

theorem open_vals {fuel : Nat} {vo : Option Addr} {n cv : Nat} {x : DataW H × List MemPlace} (h : DataW.trod enc Try.prog w base (fun _ => true) held fuel 23 [.slice vo n cv] = some x) :
    n ≤ 9223372036854775807 ∧ ∃ (A : Nat → Option Addr) (L C : Nat → Nat), ∀ K, (Es.mk K A L C).VIn w vo n ∧ (Es.mk K A L C).Ok n := by
  rcases Deep.open_int_rows Try.underlying23 Try.underlying25 Try.underlying5 Try.cells25 Try.cells5 h with ⟨hcs, _⟩ | ⟨a, len, cap, A, L, C, Z, hcs, hb, hl, hm, _, hx⟩
  · simp at hcs
    obtain ⟨rfl, rfl, rfl⟩ := hcs
    exact ⟨by omega, fun _ => none, fun _ => 0, fun _ => 0, fun _ => ⟨fun h => by omega, fun i hi => by omega⟩⟩
  · simp at hcs
    obtain ⟨rfl, rfl, rfl⟩ := hcs
    refine ⟨plain_max (Nat.le_trans hl hm), A, L, C, fun _ => ⟨fun h0 => ?_, fun i hi => ?_⟩⟩
    · obtain ⟨b, off, spot⟩ := a
      have hsp : spot = none := by simpa [Addr.add] using World.cell?_spot (hx 0 (by omega)).1
      subst hsp
      have hbl : b < w.heap.size := by have := World.block_lt_of_cell? w _ (hx 0 (by omega)).1; rw [add_plain] at this; exact this
      refine ⟨b, off, rfl, hbl, fun i hi => ?_⟩
      have := (hx i (by omega)).1
      rw [add_plain] at this
      exact this
    · obtain ⟨_, h1, h2, _, _, h5, h6⟩ := hx i (by omega)
      refine ⟨plain_max (Nat.le_trans h1 h2), fun h0 => ?_⟩
      show ∃ b off, A i = some ⟨b, off, none⟩
      have h0' : 0 < L i := h0
      cases hA : A i with
      | none => have := h5 hA; omega
      | some a' =>
        obtain ⟨b, off, spot⟩ := a'
        have hc := (h6 _ hA).2 0 (by omega)
        have hsp : spot = none := by simpa [Addr.add] using World.cell?_spot hc
        subst hsp
        exact ⟨b, off, rfl⟩

/-- One slice of bytes. -/
theorem open_bytes {fuel : Nat} {vo : Option Addr} {n cv : Nat} {x : DataW H × List MemPlace} (h : DataW.trod enc Try.prog w base (fun _ => true) held fuel 25 [.slice vo n cv] = some x) :
    n ≤ 9223372036854775807 ∧ (0 < n → ∃ b off, vo = some ⟨b, off, none⟩) := by
  rcases open_ints Try.underlying25 Try.underlying5 Try.cells5 h with ⟨hcs, _⟩ | ⟨a, l, c, zs, hcs, _, hl, hm, hz, _, hcell, _⟩
  · simp at hcs
    obtain ⟨rfl, rfl, rfl⟩ := hcs
    exact ⟨by omega, fun h => by omega⟩
  · simp at hcs
    obtain ⟨rfl, rfl, rfl⟩ := hcs
    simp only [if_true] at hz
    refine ⟨plain_max (Nat.le_trans hl hm), fun h0 => ?_⟩
    obtain ⟨b, off, spot⟩ := a
    have hsp : spot = none := by simpa [Addr.add] using World.cell?_spot (hcell 0 (by omega))
    subst hsp
    exact ⟨b, off, rfl⟩
end
end Go.Proofs.Qxb6628263a
