import Derived.Test.Qxb6628232aOne
namespace Go.Proofs.Qxb6628232a
open Go.ChangeShapes Go.WideShapes Go.ChangeAt Go.RowKit

/-- No string of the first len is longer than 1 MiB. -/
def Rs.Small (T : Rs) (len : Nat) : Prop := ∀ i, i < len → (T.r i).size ≤ 1048576 ∧ (T.s i).size ≤ 1048576 ∧ (T.d i).size ≤ 1048576

theorem below_drewN {B : Nat} {a w : World} (h : Below B a w) (n : Nat) : Below B a (w.drewN n) := by
  induction n with
  | zero => exact h
  | succ n ih => exact ih.drew

set_option maxHeartbeats 400000 in
theorem bytes_nil (ao : Option Addr) (cap : Nat) (t : Int) (w : World) :
    Calls Try.prog 6 #[.slice ao 0 cap, .int .i64 t] w fun e w' => e = .returned (.tuple #[.int .i64 t, .bool false]) ∧ w' = w := by
  go_enter Try.func6, Try.ntmps6
  go_wp2
  go_loop [1, 6] (fun n j => n = .int .i64 t ∧ j = .int .i64 0) (fun _ _ => 0)
  case atStart => exact ⟨rfl, rfl⟩
  case round =>
    obtain ⟨rfl, rfl⟩ := hrel
    go_wp2
    go_ret2
    exact ⟨rfl, rfl⟩

set_option maxHeartbeats 800000 in
theorem bytes_some (b off len cap : Nat) (T : Rs) (t : Int) (w : World) (hm : len ≤ 1048576) (hb : b < w.heap.size) (hT : T.At w b off len) (hB : T.Small len) (ht0 : 0 ≤ t) (ht1 : t ≤ 1048576) :
    Calls Try.prog 6 #[.slice (some ⟨b, off, none⟩) len cap, .int .i64 t] w fun e w' => (∃ (t' : Int) (o : Bool), e = .returned (.tuple #[.int .i64 t', .bool o]) ∧ (o = false → 0 ≤ t' ∧ t' ≤ 1048576)) ∧ Below w.heap.size w w' := by
  go_enter Try.func6, Try.ntmps6
  go_wp2
  go_loopw [1, 6] (fun n i wr => ∃ k : Nat, k ≤ len ∧ i = .int .i64 k ∧ (∃ t' : Int, n = .int .i64 t' ∧ 0 ≤ t' ∧ t' ≤ 1048576) ∧ Below w.heap.size w wr) (fun _ i _ => len - (intOf i).toNat)
  case atStart => exact ⟨0, Nat.zero_le _, rfl, ⟨t, rfl, ht0, ht1⟩, Below.refl _ _⟩
  case round =>
    obtain ⟨k, hk, rfl, ⟨t', rfl, h0, h1⟩, hnx⟩ := hrel
    by_cases hlt : k < len
    · obtain ⟨c0, c1, c2⟩ := (hT.below hnx hb) k hlt
      obtain ⟨s0, s1, s2⟩ := hB k hlt
      have hlt' : (k : Int) < (len : Int) := by omega
      go_wp2
      go_quiet (fail)
      go_wp2
      · go_ret2
        exact ⟨⟨_, true, rfl, fun h => by cases h⟩, below_drewN hnx nq⟩
      · go_roundw
        case rel => exact ⟨k + 1, by omega, by go_num, ⟨_, rfl, by omega, by omega⟩, below_drewN hnx nq⟩
        case measure => simp [intOf]; omega
    · go_wp2
      go_ret2
      exact ⟨⟨t', false, rfl, fun _ => ⟨h0, h1⟩⟩, hnx⟩

/-- The slice value reads as the first len elements of T. -/
def Rs.In (T : Rs) (w : World) (ao : Option Addr) (len : Nat) : Prop := 0 < len → ∃ b off, ao = some ⟨b, off, none⟩ ∧ b < w.heap.size ∧ T.At w b off len

theorem Rs.In.below {T : Rs} {w w' : World} {ao : Option Addr} {len : Nat} (h : T.In w ao len) (hb : Below w.heap.size w w') : T.In w' ao len := fun h0 => by
  obtain ⟨b, off, rfl, hlt, hT⟩ := h h0
  exact ⟨b, off, rfl, Nat.lt_of_lt_of_le hlt hb.size, hT.below hb hlt⟩

theorem bytes_any (ao : Option Addr) (len cap : Nat) (T : Rs) (t : Int) (w : World) (hm : len ≤ 1048576) (hT : T.In w ao len) (hB : T.Small len) (ht0 : 0 ≤ t) (ht1 : t ≤ 1048576) :
    Calls Try.prog 6 #[.slice ao len cap, .int .i64 t] w fun e w' => (∃ (t' : Int) (o : Bool), e = .returned (.tuple #[.int .i64 t', .bool o]) ∧ (o = false → 0 ≤ t' ∧ t' ≤ 1048576)) ∧ Below w.heap.size w w' := by
  by_cases h0 : len = 0
  · subst h0
    exact (bytes_nil ao cap t w).mono fun e w' ⟨he, hw⟩ => ⟨⟨t, false, he, fun _ => ⟨ht0, ht1⟩⟩, by rw [hw]; exact Below.refl _ _⟩
  · obtain ⟨b, off, rfl, hlt, hA⟩ := hT (by omega)
    exact bytes_some b off len cap T t w hm hlt hA hB ht0 ht1

theorem Rs.Small.step {T : Rs} {k : Nat} (h : T.Small k) (h0 : (T.r k).size ≤ 1048576) (h1 : (T.s k).size ≤ 1048576) (h2 : (T.d k).size ≤ 1048576) : T.Small (k + 1) := fun i hi => by
  by_cases e : i = k
  · subst e; exact ⟨h0, h1, h2⟩
  · exact h i (by omega)

/-- The box that a struct parameter is laid in. -/
abbrev boxOf (r s d : ByteArray) : Obj := .cells #[.string r, .string s, .string d] 24

theorem box_cells {w wr : World} {r s d : ByteArray} (h : Below (w.heap.size + 1) (w.alloc (boxOf r s d)) wr) :
    wr.cell? ⟨w.heap.size, 0, none⟩ = some (.string r) ∧ wr.cell? ⟨w.heap.size, 1, none⟩ = some (.string s) ∧ wr.cell? ⟨w.heap.size, 2, none⟩ = some (.string d) := by
  refine ⟨?_, ?_, ?_⟩
  · rw [h.cell (p := ⟨w.heap.size, 0, none⟩) (by simp)]; simp
  · rw [h.cell (p := ⟨w.heap.size, 1, none⟩) (by simp)]; simp
  · rw [h.cell (p := ⟨w.heap.size, 2, none⟩) (by simp)]; simp

theorem below_box {w wr : World} {r s d : ByteArray} (h : Below (w.heap.size + 1) (w.alloc (boxOf r s d)) wr) : Below w.heap.size w wr :=
  ((Below.refl _ _).alloc (Nat.le_refl _) _).trans (h.mono (by omega))
end Go.Proofs.Qxb6628232a
