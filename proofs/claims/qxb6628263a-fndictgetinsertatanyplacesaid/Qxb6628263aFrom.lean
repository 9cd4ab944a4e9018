import Derived.Test.Qxb6628263aDict
namespace Go.Proofs.Qxb6628263a
open Go.ChangeShapes Go.WideShapes Go.ChangeAt Go.RowKit

theorem le_max {n : Nat} (h : n ≤ 1048577) : n ≤ maxLen := by unfold maxLen; omega
theorem bytes_le {i0 : TypeInfo} (hz2 : i0.bytes = 40) {n : Nat} (h : n ≤ 1048577) : i0.bytes * n ≤ 281474976710656 := by rw [hz2]; omega

theorem upto_put {E : Es} {w : World} {g n k : Nat} (h : (E.upto k).Own w g n) (hk : k < n) :
    (E.upto (k + 1)).Own ((w.setCell ⟨g, k * 2, none⟩ (.string (E.k k))).setCell ⟨g, k * 2 + 1, none⟩ (.slice (E.a k) (E.l k) (E.c k))) g n := by
  refine h.put hk (if_pos (Nat.lt_succ_self k)) (if_pos (Nat.lt_succ_self k)) (if_pos (Nat.lt_succ_self k)) (if_pos (Nat.lt_succ_self k)) (fun i _ hne => ?_)
  simp only [Es.upto]
  by_cases l : i < k
  · rw [if_pos l, if_pos l, if_pos l, if_pos l, if_pos (by omega), if_pos (by omega), if_pos (by omega), if_pos (by omega)]; exact ⟨rfl, rfl, rfl, rfl⟩
  · rw [if_neg l, if_neg l, if_neg l, if_neg l, if_neg (by omega), if_neg (by omega), if_neg (by omega), if_neg (by omega)]; exact ⟨rfl, rfl, rfl, rfl⟩

theorem upto_all {E : Es} {w : World} {g n : Nat} (h : (E.upto n).Own w g n) : E.Own w g n := by
  have e := E.cells_ext n ((E.upto n).cells n) ((E.upto n).cells_length n) (fun i hi => by
    obtain ⟨h1, h2⟩ := (E.upto n).cells_get n i hi
    rw [h1, h2]
    simp [Es.upto, hi])
  unfold Es.Own at h
  rw [e] at h
  exact h

theorem Es.Own.drew {E : Es} {w : World} {g n : Nat} (h : E.Own w g n) : E.Own w.drew g n := h

set_option maxHeartbeats 800000 in
theorem dict_any (E : Es) (ko vo : Option Addr) (n ck m cv : Nat) (w : World) (hm : n ≤ 65536) (hnm : n ≤ m) (hK : E.KIn w ko n) (hV : E.VIn w vo m) :
    Calls Try.prog 6 #[.slice ko n ck, .slice vo m cv] w fun e w' => e = .returned (.slice (some ⟨w.heap.size, 0, none⟩) n n) ∧ E.Own w' w.heap.size n ∧ Below w.heap.size w w' := by
  obtain ⟨i0, hi0, hz0, hz1, hz2⟩ := info_parts Try.info34
  go_enter Try.func6, Try.ntmps6
  go_wp2_with (at_make; refine wpList_make_full _ rfl (.tmp 8) (.tmp 8) 27 rfl w.heap.size 34 i0 _ 2 Try.underlying27 hi0 hz0 hz1 .i64 .i64 _ _ n rfl rfl rfl rfl (bytes_le hz2 (by omega)) (le_max (by omega)) (Nat.le_refl _) ?_; intro w1 hown1 hgrow1; obtain ⟨O1, hb1⟩ := Es.own_made (E := E) hown1 hgrow1; clear hown1 hgrow1)
  go_loopw [6] (fun j wr => ∃ k : Nat, k ≤ n ∧ j = .int .i64 k ∧ (E.upto k).Own wr w.heap.size n ∧ Below w.heap.size w wr) (fun j _ => n - (intOf j).toNat)
  case atStart => exact ⟨0, Nat.zero_le _, rfl, O1, hb1⟩
  case round =>
    clear O1 hb1
    obtain ⟨k, hk, rfl, O, hnx⟩ := hrel
    by_cases hlt : k < n
    · obtain ⟨b, off, rfl, hb, hc⟩ := hK (by omega)
      obtain ⟨b', off', rfl, hb', hc'⟩ := hV (by omega)
      have c0 : wr.cell? ⟨b, off + k, none⟩ = some (.string (E.k k)) := (hnx.cell (p := ⟨b, off + k, none⟩) hb).trans (hc k hlt)
      have c1 : wr.cell? ⟨b', off' + k, none⟩ = some (.slice (E.a k) (E.l k) (E.c k)) := (hnx.cell (p := ⟨b', off' + k, none⟩) hb').trans (hc' k (by omega))
      obtain ⟨e0, e1⟩ := O.at k hlt
      rw [Nat.zero_add] at e0 e1
      have f0 := O.frozen (k * 2)
      have f1 := O.frozen (k * 2 + 1)
      have hl1 : (k : Int) < (n : Int) := by omega
      have hl2 : (k : Int) < (m : Int) := by omega
      have hl3 : k < m := by omega
      go_wp2
      go_region
      all_goals
        go_wp2
        go_roundw
        case rel => exact ⟨k + 1, by omega, by go_num, (upto_put O hlt).drew, ((hnx.setCell (by simp) _).setCell (by simp) _).drew⟩
        case measure => simp [intOf]; omega
    · have hkl : Hid (k = n) := by show k = n; omega
      go_wp2
      go_ret
      exact ⟨rfl, upto_all (by have := O; rw [hkl.out] at this; exact this), hnx⟩
end Go.Proofs.Qxb6628263a
