import Derived.Test.Qxb6628232aBytes
import Derived.Deep.Strs
import Derived.Lib.SmallJoins
namespace Go.Proofs.Qxb6628232a
open Go.ChangeShapes Go.WideShapes Go.ChangeAt Go.RowKit

theorem Try.cells24 : Try.prog.cellsOf 24 = 3 := by kernel_rfl
theorem Try.cells9 : Try.prog.cellsOf 9 = 1 := by kernel_rfl

section
variable {H : Type} {enc : TypeId × Value → H} {w : World} {base : Nat} {spare : Nat → Bool} {held : Bool}

/-- A slice of structs of three strings, opened: its elements by their index. -/
theorem open_rs {fuel : Nat} {ao : Option Addr} {len cap : Nat} {x : DataW H × List MemPlace} (h : DataW.trod enc Try.prog w base spare held fuel 22 [.slice ao len cap] = some x) :
    len ≤ 9223372036854775807 ∧ ∃ T : Rs, T.In w ao len := by
  rcases Deep.open_slice Try.underlying22 h with ⟨hcs, _⟩ | ⟨a, len', cap', m, n, D, Pl, hcs, hb, hl, hm, hmm, _, hx⟩
  · simp at hcs
    obtain ⟨rfl, rfl, rfl⟩ := hcs
    exact ⟨by omega, ⟨fun _ => ByteArray.empty, fun _ => ByteArray.empty, fun _ => ByteArray.empty⟩, fun h => by omega⟩
  · simp at hcs
    obtain ⟨rfl, rfl, rfl⟩ := hcs
    have hlm : len ≤ m := by rw [hmm]; split <;> omega
    refine ⟨by have : len ≤ maxLen := Nat.le_trans hl hm; unfold maxLen at this; exact this, ?_⟩
    have each : ∀ i, i < len → ∃ q : ByteArray × ByteArray × ByteArray, w.cell? (a.add (i * 3)) = some (.string q.1) ∧ w.cell? (a.add (i * 3 + 1)) = some (.string q.2.1) ∧ w.cell? (a.add (i * 3 + 1 + 1)) = some (.string q.2.2) := by
      intro i hi
      obtain ⟨cs', h1, h2⟩ := hx i (by omega)
      rw [Try.cells24] at h1
      obtain ⟨_, hlen, hcell⟩ := World.cells?_some h1
      obtain ⟨y0, y1, y2, k, _, _, g0, g1, g2⟩ := Deep.trod_struct3 Try.underlying24 h2
      match cs', hlen with
      | [v0, v1, v2], _ =>
        simp [Try.cells9] at g0 g1 g2
        obtain ⟨s0, e0, _, _⟩ := DataW.trod_string Try.underlying9 g0
        obtain ⟨s1, e1, _, _⟩ := DataW.trod_string Try.underlying9 g1
        obtain ⟨s2, e2, _, _⟩ := DataW.trod_string Try.underlying9 g2
        simp at e0 e1 e2
        subst e0 e1 e2
        have k0 := hcell 0 (by omega)
        have k1 := hcell 1 (by omega)
        have k2 := hcell 2 (by omega)
        rw [Deep.add_add] at k0 k1 k2
        exact ⟨(s0, s1, s2), by simpa using k0, by simpa using k1, by simpa [Nat.add_assoc] using k2⟩
    obtain ⟨q, hq⟩ := Deep.choose_lt each
    refine ⟨⟨fun i => (q i).1, fun i => (q i).2.1, fun i => (q i).2.2⟩, fun h0 => ?_⟩
    obtain ⟨b, off, spot⟩ := a
    have hsp : spot = none := by simpa [Addr.add] using World.cell?_spot (hq 0 h0).1
    subst hsp
    have hbl : b < w.heap.size := by have := World.block_lt_of_cell? w _ (hq 0 h0).1; rw [add_plain] at this; exact this
    refine ⟨b, off, rfl, hbl, fun i hi => ?_⟩
    obtain ⟨k0, k1, k2⟩ := hq i hi
    rw [add_plain] at k0 k1 k2
    exact ⟨k0, k1, k2⟩
end
end Go.Proofs.Qxb6628232a
