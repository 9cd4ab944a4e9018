import Derived.Test.Qxb6628263aRows
import Derived.WalkKit
import Derived.ProofKit
import Derived.OpenShut
import Derived.ShutString
import Derived.ChangeOld
import Derived.Below
import Derived.Outline
import Derived.WalkSpells
import Derived.Deep.RegionWith
import Derived.Deep.QuietTactic
import Derived.BigQuiet
import Derived.RegionTactic
import Derived.LaidEqlPtr
namespace Go.Proofs.Qxb6628263a
open Go.ChangeShapes Go.WideShapes Go.ChangeAt Go.RowKit

/-! ### Entries, by their index: a key, and a slice value -/
structure Es where
  k : Nat → ByteArray
  a : Nat → Option Addr
  l : Nat → Nat
  c : Nat → Nat

/-- The cells at ⟨b, off⟩ hold the first n entries of E, two cells each. -/
def Es.At (E : Es) (w : World) (b off n : Nat) : Prop :=
  ∀ i, i < n → w.cell? ⟨b, off + i * 2, none⟩ = some (.string (E.k i)) ∧ w.cell? ⟨b, off + i * 2 + 1, none⟩ = some (.slice (E.a i) (E.l i) (E.c i))

theorem Es.At.below {E : Es} {w w' : World} {b off n B : Nat} (h : E.At w b off n) (hb : Below B w w') (hB : b < B) : E.At w' b off n := fun i hi =>
  ⟨(hb.cell (p := ⟨b, off + i * 2, none⟩) hB).trans (h i hi).1, (hb.cell (p := ⟨b, off + i * 2 + 1, none⟩) hB).trans (h i hi).2⟩

def Es.In (E : Es) (w : World) (ao : Option Addr) (n : Nat) : Prop := 0 < n → ∃ b off, ao = some ⟨b, off, none⟩ ∧ b < w.heap.size ∧ E.At w b off n

set_option maxHeartbeats 400000 in
theorem get_at (E : Es) (ao : Option Addr) (n cap f : Nat) (key : ByteArray) (w : World) (hm : n ≤ 1048576) (hE : E.In w ao n) (hf : f < n) (hne : Hid (∀ i, i < f → ((E.k i).toList == key.toList) = false)) (heq : Hid (((E.k f).toList == key.toList) = true)) :
    Calls Try.prog 7 #[.slice ao n cap, .string key] w fun e w' => e = .returned (.tuple #[.slice (E.a f) (E.l f) (E.c f), .bool true]) ∧ Below w.heap.size w w' := by
  obtain ⟨b, off, rfl, hb, hA⟩ := hE (by omega)
  go_enter Try.func7, Try.ntmps7
  go_wp2
  go_loopw [10] (fun i wr => ∃ k : Nat, k ≤ f ∧ i = .int .i64 k ∧ Below w.heap.size w wr) (fun i _ => f - (intOf i).toNat)
  case atStart => exact ⟨0, Nat.zero_le _, rfl, Below.refl _ _⟩
  case round =>
    obtain ⟨k, hk, rfl, hnx⟩ := hrel
    obtain ⟨c0, c1⟩ := (hA.below hnx hb) k (by omega)
    by_cases hlt : k < f
    · have hq := hne.out k hlt
      go_wp2
      go_roundw
      case rel => exact ⟨k + 1, by omega, by go_num, hnx.alloc hnx.size _⟩
      case measure => simp [intOf]; omega
    · obtain rfl : k = f := by omega
      have hq := heq.out
      go_wp2
      go_ret2
      exact ⟨rfl, hnx.alloc hnx.size _⟩

set_option maxHeartbeats 400000 in
theorem get_none (E : Es) (ao : Option Addr) (n cap : Nat) (key : ByteArray) (w : World) (hm : n ≤ 1048576) (hE : E.In w ao n) (hne : Hid (∀ i, i < n → ((E.k i).toList == key.toList) = false)) :
    Calls Try.prog 7 #[.slice ao n cap, .string key] w fun e w' => e = .returned (.tuple #[.slice none 0 0, .bool false]) ∧ Below w.heap.size w w' := by
  go_enter Try.func7, Try.ntmps7
  go_wp2
  go_loopw [10] (fun i wr => ∃ k : Nat, k ≤ n ∧ i = .int .i64 k ∧ Below w.heap.size w wr) (fun i _ => n - (intOf i).toNat)
  case atStart => exact ⟨0, Nat.zero_le _, rfl, Below.refl _ _⟩
  case round =>
    obtain ⟨k, hk, rfl, hnx⟩ := hrel
    by_cases hlt : k < n
    · obtain ⟨b, off, rfl, hb, hA⟩ := hE (by omega)
      obtain ⟨c0, c1⟩ := (hA.below hnx hb) k (by omega)
      have hq := hne.out k hlt
      go_wp2
      go_roundw
      case rel => exact ⟨k + 1, by omega, by go_num, hnx.alloc hnx.size _⟩
      case measure => simp [intOf]; omega
    · go_wp2
      go_ret2
      exact ⟨rfl, hnx⟩

theorem Try.info5 : (Try.prog.info? 5).map (fun i => (i.zero, i.size, i.bytes)) = some (some (.int .u8 0), 1, 1) := by kernel_rfl

theorem below_drewN {B : Nat} {a w : World} (h : Below B a w) (n : Nat) : Below B a (w.drewN n) := by
  induction n with
  | zero => exact h
  | succ n ih => exact ih.drew

set_option maxHeartbeats 400000 in
theorem same_refl (ao : Option Addr) (l c : Nat) (w : World) (_hm : l ≤ 9223372036854775807) (h0 : 0 < l → ∃ b off, ao = some ⟨b, off, none⟩) :
    Calls Try.prog 8 #[.slice ao l c, .slice ao l c] w fun e w' => e = .returned (.bool true) ∧ Below w.heap.size w w' := by
  have he := fun wx => Lib.run_eql_slice_nil (P := Try.prog) wx 25 5 ao l c 0 0 Try.underlying25
  by_cases hl : l = 0
  · have HL : Hid (l = 0) := hl
    have hl0 : ((l : Int) == 0) = true := by simp [hl]
    clear hl
    go_enter Try.func8, Try.ntmps8
    go_wp2
    go_ret
    exact ⟨rfl, Below.refl _ _⟩
  · have hl0 : ((l : Int) == 0) = false := by simp; omega
    have hl1 : (0 : Int) < (l : Int) := by omega
    obtain ⟨b, off, rfl⟩ := h0 (by omega)
    clear h0
    have hl2 : 0 < l := by omega
    obtain ⟨j5, hj5, _, _, _⟩ := info_parts Try.info5
    have hptr := fun wx => run_eql_ptr_same (P := Try.prog) wx (tp := 35) (te := 5) ⟨b, off, none⟩ Try.underlying35 hj5
    go_enter Try.func8, Try.ntmps8
    go_wp2
    go_quiet (fail)
    go_wp2
    go_ret
    exact ⟨rfl, below_drewN (Below.refl _ _) _⟩
end Go.Proofs.Qxb6628263a
