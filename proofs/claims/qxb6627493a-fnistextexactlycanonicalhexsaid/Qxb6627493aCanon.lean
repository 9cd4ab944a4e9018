import Derived.Test.Qxb6627493aCut
import Derived.Laws.BitsAllLaws
namespace Go.Proofs.Qxb6627493a
open Go.ChangeShapes Go.WideShapes Go.ChangeAt Go.RowKit

/-- The value of a digit, by arithmetic. -/
def nibN (n : Nat) : Nat := (n % 16 + 9 * (n / 64 % 2)) % 16

theorem nibN_lt (n : Nat) : nibN n < 16 := by unfold nibN; omega

theorem and1_u8 : ∀ n : Fin 4, bits .and .u8 (n.val : Int) 1 = ((n.val % 2 : Nat) : Int) := by decide +kernel

theorem nib_eq (n : Nat) : (((n : Int) % 16 + 9 * ((n / 64 % 2 : Nat) : Int)) % 256 % 16) = ((nibN n : Nat) : Int) := by unfold nibN; omega

theorem ret_u8 {k : IntKind} {a b : Int} (h : a = b) : Ending.returned (.int k a) = .returned (.int k b) := by rw [h]

set_option maxHeartbeats 400000 in
theorem nibble_any (n : Nat) (hn : n < 256) (w : World) :
    Calls Try.prog 10 #[.int .u8 (n : Int)] w fun e w' => e = .returned (.int .u8 ((nibN n : Nat) : Int)) ∧ w' = w := by
  have hb : bits .and .u8 ((n : Int) / 64) 1 = ((n / 64 % 2 : Nat) : Int) := by
    have := and1_u8 ⟨n / 64, by omega⟩
    simpa using this
  have HB : Hid _ := hb
  clear hb
  go_enter Try.func10, Try.ntmps10
  go_wp2
  go_ret
  exact ⟨ret_u8 (by rw [HB.out]; exact nib_eq n), rfl⟩

/-- The byte of s at i. -/
def byteN (s : ByteArray) (i : Nat) : Nat := (s.data.toList.getD i 0).toNat

theorem byteN_eq (s : ByteArray) (i : Nat) (h : i < s.size) : s[i].toNat = byteN s i := by
  unfold byteN
  rw [List.getD, List.getElem?_eq_getElem (by simpa using h)]
  rfl

/-- The byte that characters 2j and 2j+1 spell. -/
def pairN (s : ByteArray) (j : Nat) : Nat := nibN (byteN s (2 * j)) * 16 + nibN (byteN s (2 * j + 1))

theorem pairN_lt (s : ByteArray) (j : Nat) : pairN s j < 256 := by
  have := nibN_lt (byteN s (2 * j)); have := nibN_lt (byteN s (2 * j + 1)); unfold pairN; omega

/-- The array b behind k rounds. -/
def bRow (s : ByteArray) (k : Nat) : List Int := (List.range k).map (fun j => ((pairN s j : Nat) : Int)) ++ List.replicate (32 - k) 0

theorem bRow_set (s : ByteArray) (k : Nat) (h : k < 32) : ((bRow s k).map (Value.int .u8)).set k (.int .u8 ((pairN s k : Nat) : Int)) = (bRow s (k + 1)).map (Value.int .u8) := by
  have e : 32 - k = (32 - (k + 1)) + 1 := by omega
  unfold bRow
  rw [e, List.replicate_succ, List.range_succ, List.map_append, List.map_append, List.map_append, List.set_append_right _ _ (by simp)]
  simp

theorem bRow_length (s : ByteArray) (k : Nat) (h : k ≤ 32) : (bRow s k).length = 32 := by simp [bRow]; omega

theorem shl_or : ∀ a b : Fin 16, bits .or .u8 ((a.val : Int) * 16 % 256) (b.val : Int) = ((a.val * 16 + b.val : Nat) : Int) := by decide +kernel

theorem pair_or (s : ByteArray) (k m n : Nat) (hm : m = 2 * k) (hn : n = 2 * k + 1) (h0 : m < s.size) (h1 : n < s.size) :
    bits .or .u8 (((nibN s[m].toNat : Nat) : Int) * 16 % 256) ((nibN s[n].toNat : Nat) : Int) = ((pairN s k : Nat) : Int) := by
  rw [byteN_eq s m h0, byteN_eq s n h1]
  have := shl_or ⟨nibN (byteN s m), nibN_lt _⟩ ⟨nibN (byteN s n), nibN_lt _⟩
  unfold pairN
  subst hm hn
  exact this

/-- The digit of value j, as a number. -/
def digN (j : Nat) : Nat := byteN digits j

theorem digN_eq (j : Nat) (h : j < digits.size) : digits[j].toNat = digN j := byteN_eq digits j h

/-- What becomes of the character at i. -/
def canN (s : ByteArray) (i : Nat) : Int := ((digN (nibN (byteN s i)) : Nat) : Int)

/-- The array out behind k rounds. -/
def oRow (s : ByteArray) (k : Nat) : List Int := (List.range (2 * k)).map (canN s) ++ List.replicate (64 - 2 * k) 0

theorem oRow_length (s : ByteArray) (k : Nat) (h : k ≤ 32) : (oRow s k).length = 64 := by simp [oRow]; omega

theorem oRow_set (s : ByteArray) (k : Nat) (h : k < 32) :
    ((((oRow s k).map (Value.int .u8)).set (2 * k) (.int .u8 (canN s (2 * k)))).set (2 * k + 1) (.int .u8 (canN s (2 * k + 1)))) = (oRow s (k + 1)).map (Value.int .u8) := by
  have e : 64 - 2 * k = (64 - 2 * (k + 1)) + 1 + 1 := by omega
  have e2 : 2 * (k + 1) = 2 * k + 1 + 1 := by omega
  unfold oRow
  rw [e, e2, List.replicate_succ, List.replicate_succ, List.range_succ, List.range_succ, List.map_append, List.map_append, List.map_append, List.map_append, List.set_append_right _ _ (by simp), List.set_append_right _ _ (by simp)]
  simp

theorem pair_hi (s : ByteArray) (k : Nat) : pairN s k / 16 = nibN (byteN s (2 * k)) := by
  have := nibN_lt (byteN s (2 * k)); have := nibN_lt (byteN s (2 * k + 1)); unfold pairN; omega
theorem pair_lo (s : ByteArray) (k : Nat) : pairN s k % 16 = nibN (byteN s (2 * k + 1)) := by
  have := nibN_lt (byteN s (2 * k)); have := nibN_lt (byteN s (2 * k + 1)); unfold pairN; omega

theorem o_step {s : ByteArray} {wr : World} {B k : Nat} {x y : Int} (hown : wr.ownsRow B 29 1 (.slice (some ⟨B, 0, none⟩) 64 64) 64 ((oRow s k).map (Value.int .u8)))
    (hlt : k < 32) (hx : x = canN s (2 * k)) (hy : y = canN s (2 * k + 1)) :
    ((wr.setCell ⟨B, 2 * k, none⟩ (.int .u8 x)).setCell ⟨B, 2 * k + 1, none⟩ (.int .u8 y)).ownsRow B 29 1 (.slice (some ⟨B, 0, none⟩) 64 64) 64 ((oRow s (k + 1)).map (Value.int .u8)) := by
  have h1 := (hown.stored (2 * k) (.int .u8 x)).1
  have h2 := (h1.stored (2 * k + 1) (.int .u8 y)).1
  rw [hx, hy, oRow_set s k hlt] at h2
  rw [hx, hy]
  exact h2

theorem can_hi (s : ByteArray) (k P : Nat) (hP : P = pairN s k) (h : P / 16 < digits.size) : ((digits[P / 16].toNat : Nat) : Int) = canN s (2 * k) := by
  rw [digN_eq (P / 16) h, hP, pair_hi]; rfl
theorem can_lo (s : ByteArray) (k P : Nat) (hP : P = pairN s k) (h : P % 16 < digits.size) : ((digits[P % 16].toNat : Nat) : Int) = canN s (2 * k + 1) := by
  rw [digN_eq (P % 16) h, hP, pair_lo]; rfl

/-- The string that zzCanon hands back. -/
def canonOf (s : ByteArray) : ByteArray := strOfNums ((List.range 64).map (canN s))

set_option maxHeartbeats 800000 in
theorem canon_any (s : ByteArray) (w : World) (h64 : Hid (s.size = 64)) :
    Calls Try.prog 7 #[.string s] w fun e w' => e = .returned (.string (canonOf s)) ∧ Below w.heap.size w w' := by
  go_enter Try.func7, Try.ntmps7
  go_wp2
  go_loopw [4] (fun i wr => ∃ k : Nat, k ≤ 32 ∧ i = .int .i64 k ∧ wr.ownsRow w.heap.size 26 1 (.slice (some ⟨w.heap.size, 0, none⟩) 32 32) 32 ((bRow s k).map (Value.int .u8)) ∧ Below w.heap.size w wr) (fun i _ => 32 - (intOf i).toNat)
  case atStart =>
    refine ⟨0, by omega, rfl, ?_, (Below.refl _ _).alloc (Nat.le_refl _) _⟩
    exact World.ownsRow_lit w _ 32 (Nat.le_refl _) (by unfold maxLen; omega) (by rfl)
  case round =>
    obtain ⟨k, hk, rfl, hown, hnx⟩ := hrel
    by_cases hlt : k < 32
    · have hfr : wr.frozen? ⟨w.heap.size, k, none⟩ = false := hown.frozenAt k
      have hst := hown.stored k (.int .u8 ((pairN s k : Nat) : Int))
      have hcell : ∃ v, wr.cell? ⟨w.heap.size, k, none⟩ = some v := by
        rw [hown.cellAt k (by omega)]
        exact ⟨_, List.getElem?_eq_getElem (by simp [bRow_length s k hk, hlt])⟩
      obtain ⟨v0, hcell⟩ := hcell
      rw [bRow_set s k hlt] at hst
      have HS : Hid _ := hst
      clear hst
      obtain ⟨m, hm⟩ : ∃ m : Nat, Hid (m = 2 * k) := ⟨_, rfl⟩
      obtain ⟨n, hn⟩ : ∃ n : Nat, Hid (n = 2 * k + 1) := ⟨_, rfl⟩
      have hi0 : m < s.size := by have := h64.out; have := hm.out; omega
      have hi1 : n < s.size := by have := h64.out; have := hn.out; omega
      have hw0 : IntKind.i64.wrap (2 * (k : Int)) = (m : Int) := by have := hm.out; rw [IntKind.wrap_i64]; omega
      have hw1 : IntKind.i64.wrap ((m : Int) + 1) = (n : Int) := by have := hm.out; have := hn.out; rw [IntKind.wrap_i64]; omega
      have HX : Hid _ := pair_or s k m n hm.out hn.out hi0 hi1
      go_wp2
      go_region_with (go_at_call 10; go_must (refine (nibble_any _ ?_ _).mono ?_; (focus exact UInt8.toNat_lt _); rintro e w2 ⟨rfl, rfl⟩))
      all_goals
        go_wp2
        go_roundw
        case rel => exact ⟨k + 1, by omega, by go_num, by rw [HX.out]; exact HS.out.1, (hnx.setCell (by simp) _).drew⟩
        case measure => simp [intOf]; omega
    · have hk32 : k = 32 := by omega
      have hlt32 : w.heap.size < wr.heap.size := (hown.lt _ rfl).2
      have hbc : ∀ i, i < 32 → wr.cell? ⟨w.heap.size, i, none⟩ = some (.int .u8 ((pairN s i : Nat) : Int)) := fun i hi => by
        rw [hown.cellAt i (by omega), hk32]
        simp [bRow, hi]
      have HB : Hid _ := hbc
      have hge : 32 ≤ k := by omega
      obtain ⟨k0, hk0⟩ : ∃ k0, k0 = k := ⟨_, rfl⟩
      subst hk0
      clear hbc hlt hk32 hk
      obtain ⟨w1, hw1⟩ : ∃ w1, w1 = wr := ⟨_, rfl⟩
      subst hw1
      go_wp2
      go_loopw [6] (fun i wr => ∃ k : Nat, k ≤ 32 ∧ i = .int .i64 k ∧ wr.ownsRow w1.heap.size 29 1 (.slice (some ⟨w1.heap.size, 0, none⟩) 64 64) 64 ((oRow s k).map (Value.int .u8)) ∧ Below w1.heap.size w1 wr) (fun i _ => 32 - (intOf i).toNat)
      case atStart =>
        refine ⟨0, by omega, rfl, ?_, (Below.refl _ _).alloc (Nat.le_refl _) _⟩
        exact World.ownsRow_lit w1 _ 64 (Nat.le_refl _) (by unfold maxLen; omega) (by rfl)
      case round =>
        clear hown
        obtain ⟨k, hk, rfl, hown, hnx2⟩ := hrel
        by_cases hlt : k < 32
        · obtain ⟨P, hP⟩ : ∃ P : Nat, Hid (P = pairN s k) := ⟨_, rfl⟩
          have hPl : P < 256 := by rw [hP.out]; exact pairN_lt s k
          have hb0 : wr.cell? ⟨w.heap.size, k, none⟩ = some (.int .u8 (P : Int)) := by rw [hP.out]; exact (hnx2.cell (p := ⟨w.heap.size, k, none⟩) hlt32).trans (HB.out k hlt)
          have hf0 : wr.frozen? ⟨w1.heap.size, 2 * k, none⟩ = false := hown.frozenAt _
          have hf1 : wr.frozen? ⟨w1.heap.size, 2 * k + 1, none⟩ = false := hown.frozenAt _
          obtain ⟨v0, hc0⟩ : ∃ v, wr.cell? ⟨w1.heap.size, 2 * k, none⟩ = some v := by
            rw [hown.cellAt _ (by omega)]
            exact ⟨_, List.getElem?_eq_getElem (by simp [oRow_length s k hk]; omega)⟩
          obtain ⟨v1, hc1⟩ : ∃ v, wr.cell? ⟨w1.heap.size, 2 * k + 1, none⟩ = some v := by
            rw [hown.cellAt _ (by omega)]
            exact ⟨_, List.getElem?_eq_getElem (by simp [oRow_length s k hk]; omega)⟩
          have h16 : P / 16 < digits.size := by show P / 16 < 16; omega
          have l16 : P % 16 < digits.size := by show P % 16 < 16; omega
          go_wp2
          go_roundw
          case rel => exact ⟨k + 1, by omega, by go_num, o_step hown hlt (can_hi s k P hP.out h16) (can_lo s k P hP.out l16), (hnx2.setCell (by simp) _).setCell (by simp) _⟩
          case measure => simp [intOf]; omega
        · have hconv : (convert 30 9 (.slice (some ⟨w1.heap.size, 0, none⟩) 64 64)).run Try.prog wr = .ok (.string (canonOf s)) wr :=
            run_convert_bytes_arg (P := Try.prog) wr 30 5 Try.underlying30 Try.underlying5 w1.heap.size 0 64 64 ((List.range 64).map (canN s)) (by simp) (fun i hi => by
              have hk32 : k = 32 := by omega
              rw [Nat.zero_add, hown.cellAt i (by omega), hk32]
              simp [oRow, hi]) 9 Try.underlying9
          go_wp2
          go_ret
          exact ⟨rfl, hnx.trans (hnx2.mono hnx.size)⟩
end Go.Proofs.Qxb6627493a
