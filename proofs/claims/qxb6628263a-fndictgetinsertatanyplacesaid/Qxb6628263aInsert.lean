import Derived.Test.Qxb6628263aIns
namespace Go.Proofs.Qxb6628263a
open Go.ChangeShapes Go.WideShapes Go.ChangeAt Go.RowKit

set_option maxRecDepth 100000 in
set_option maxHeartbeats 4000000 in
theorem ins_in (E : Es) (ko vo : Option Addr) (n ck m cv : Nat) (pos : Int) (nk : ByteArray) (na : Option Addr) (nl nc : Nat) (key : ByteArray) (w : World) (hn : n ≤ 65536) (hm : m ≤ 65536) (hkey : key.size ≤ 1048576) (hnk : nk.size ≤ 1048576) (hnl : nl ≤ 1048576)
    (hK : E.KIn w ko n) (hV : E.VIn w vo m) (hS : E.Ok m) (hN : 0 < nl → ∃ b off, na = some ⟨b, off, none⟩) :
    Calls Try.prog 4 #[.slice ko n ck, .slice vo m cv, .int .i64 pos, .string nk, .slice na nl nc, .string key] w fun e w' => e = .returned (.bool true) ∧ Below w.heap.size w w' := by
  obtain ⟨f, hF⟩ := E.first_ex key n
  obtain ⟨i0, hi0, hz0, hz1, hz2⟩ := info_parts Try.info34
  go_enter Try.func4, Try.ntmps4
  go_wp2_with (go_at_call 9; go_must (refine (small9_any E _ _ _ _ _ _ _ _ _ _ _ _ _ (by omega) (by omega) hK hV).mono ?_; rintro e w1 ⟨⟨o, rfl⟩, rfl⟩; cases o))
  all_goals try (go_ret; exact ⟨rfl, Below.refl _ _⟩)
  go_loop [13, 14] (fun z i => ∃ k : Nat, k ≤ n ∧ i = .int .i64 k ∧ (∃ q : Int, z = .int .i64 q ∧ 0 ≤ q ∧ q ≤ 1048576)) (fun _ i => n - (intOf i).toNat)
  case atStart => exact ⟨0, Nat.zero_le _, rfl, ⟨_, rfl, by omega, by omega⟩⟩
  case round =>
    obtain ⟨k, hk, rfl, ⟨q, rfl, h0, h1⟩⟩ := hrel
    by_cases hlt : k < n
    · obtain ⟨b, off, rfl, hb, hc⟩ := hK (by omega)
      have c0 := hc k hlt
      clear hc
      go_wp2
      all_goals first
        | (go_ret; exact ⟨rfl, Below.refl _ _⟩)
        | (go_round
           case rel => exact ⟨k + 1, by omega, by go_num, ⟨_, rfl, by omega, by omega⟩⟩
           case measure => simp [intOf]; omega)
    · go_wp2
      go_loop [13, 15] (fun z i => ∃ k : Nat, k ≤ m ∧ i = .int .i64 k ∧ (∃ q : Int, z = .int .i64 q ∧ 0 ≤ q ∧ q ≤ 1048576)) (fun _ i => m - (intOf i).toNat)
      case atStart => exact ⟨0, Nat.zero_le _, rfl, ⟨_, rfl, by omega, by omega⟩⟩
      case round =>
        obtain ⟨k2, hk2, rfl, ⟨q2, rfl, h02, h12⟩⟩ := hrel
        by_cases hlt2 : k2 < m
        · obtain ⟨b, off, rfl, hb, hc⟩ := hV (by omega)
          have c0 := hc k2 hlt2
          clear hc
          go_wp2
          all_goals first
            | (go_ret; exact ⟨rfl, Below.refl _ _⟩)
            | (go_round
               case rel => exact ⟨k2 + 1, by omega, by go_num, ⟨_, rfl, by omega, by omega⟩⟩
               case measure => simp [intOf]; omega)
        · by_cases hnm : n = m
          · have HNM : Hid (n = m) := hnm
            have hnb : ((n : Int) != (m : Int)) = false := by simp [hnm]
            clear hnm
            by_cases hpos : pos < 0 ∨ (n : Int) < pos
            · by_cases hneg : pos < 0
              · go_wp2
                go_ret
                exact ⟨rfl, Below.refl _ _⟩
              · have hgt : (n : Int) < pos := by omega
                go_wp2
                go_ret
                exact ⟨rfl, Below.refl _ _⟩
            · obtain ⟨p, rfl⟩ : ∃ p : Nat, pos = (p : Int) := ⟨pos.toNat, by omega⟩
              have hp : p ≤ n := by omega
              have hnm2 : n ≤ m := by have := HNM.out; omega
              clear hpos
              go_wp2_with (first
                | (go_at_call 6; go_must (refine (dict_any E _ _ _ _ _ _ _ hn hnm2 hK hV).mono ?_; rintro e w2 ⟨rfl, O2, hb2⟩))
                | (at_make; refine wpList_make_full _ rfl (.tmp 139) (.tmp 139) 27 rfl w2.heap.size 34 i0 _ 2 Try.underlying27 hi0 hz0 hz1 .i64 .i64 _ _ (n + 1) rfl rfl (by omega) (by omega) (bytes_le hz2 (by omega)) (le_max (by omega)) (Nat.le_refl _) ?_; intro w3 hown3 hgrow3; obtain ⟨G3, hb3⟩ := Es.own_made (E := E) hown3 hgrow3; clear hown3 hgrow3))
              have hg1 := O2.lt
              go_loopw [19] (fun j wr => ∃ k : Nat, k ≤ p ∧ j = .int .i64 k ∧ (E.upto k).Own wr w2.heap.size (n + 1) ∧ Below w2.heap.size w2 wr) (fun j _ => p - (intOf j).toNat)
              case atStart => exact ⟨0, Nat.zero_le _, rfl, G3, hb3⟩
              case round =>
                clear G3 hb3
                obtain ⟨k3, hk3, rfl, O, hnx⟩ := hrel
                have hall := ch hb2 hnx
                by_cases hlt3 : k3 < p
                · obtain ⟨b, off, rfl, hb, hc⟩ := hK (by omega)
                  obtain ⟨b', off', rfl, hb', hc'⟩ := hV (by omega)
                  have c0 : wr.cell? ⟨b, off + k3, none⟩ = some (.string (E.k k3)) := (hall.cell (p := ⟨b, off + k3, none⟩) hb).trans (hc k3 (by omega))
                  have c1 : wr.cell? ⟨b', off' + k3, none⟩ = some (.slice (E.a k3) (E.l k3) (E.c k3)) := (hall.cell (p := ⟨b', off' + k3, none⟩) hb').trans (hc' k3 (by omega))
                  obtain ⟨e0, e1⟩ := O.at k3 (by omega)
                  rw [Nat.zero_add] at e0 e1
                  have f0 := O.frozen (k3 * 2)
                  have f1 := O.frozen (k3 * 2 + 1)
                  have hl1 : (k3 : Int) < (n : Int) := by omega
                  have hl2 : (k3 : Int) < (m : Int) := by omega
                  have hl3 : k3 < m := by omega
                  have hl4 : k3 < n := by omega
                  have hl5 : k3 < n + 1 := by omega
                  have hl6 : (k3 : Int) < (n : Int) + 1 := by omega
                  clear hc hc'
                  go_wp2
                  go_region
                  all_goals
                    go_wp2
                    go_roundw
                    case rel => exact ⟨k3 + 1, by omega, by go_num, (upto_put O (by omega)).drew, ((hnx.setCell (by simp) _).setCell (by simp) _).drew⟩
                    case measure => simp [intOf]; omega
                · have hkp : Hid (k3 = p) := by show k3 = p; omega
                  have O' : (E.upto p).Own wr w2.heap.size (n + 1) := by have := O; rw [hkp.out] at this; exact this
                  have hge : p ≤ k3 := by omega
                  obtain ⟨e0, e1⟩ := O'.at p (by omega)
                  rw [Nat.zero_add] at e0 e1
                  have f0 := O'.frozen (p * 2)
                  have f1 := O'.frozen (p * 2 + 1)
                  have O4 := ins_put (x := nk) (a := na) (l := nl) (c := nc) O' (by omega)
                  have hb4 := (hnx.setCell (p := ⟨w2.heap.size, p * 2, none⟩) (by simp) (.string nk)).setCell (p := ⟨w2.heap.size, p * 2 + 1, none⟩) (by simp) (.slice na nl nc)
                  clear O O' hall hlt3 hk3 hnx
                  go_wp2
                  go_loopw [20] (fun j wr => ∃ k : Nat, p ≤ k ∧ k ≤ n ∧ j = .int .i64 k ∧ (E.ins p nk na nl nc k).Own wr w2.heap.size (n + 1) ∧ Below w2.heap.size w2 wr) (fun j _ => n - (intOf j).toNat)
                  case atStart => exact ⟨p, Nat.le_refl _, hp, rfl, O4, hb4⟩
                  case round =>
                    clear O4 hb4 e0 e1 f0 f1
                    obtain ⟨k4, hpk, hk4, rfl, O, hnx⟩ := hrel
                    have hall := ch hb2 hnx
                    by_cases hlt4 : k4 < n
                    · obtain ⟨b, off, rfl, hb, hc⟩ := hK (by omega)
                      obtain ⟨b', off', rfl, hb', hc'⟩ := hV (by omega)
                      have c0 : wr.cell? ⟨b, off + k4, none⟩ = some (.string (E.k k4)) := (hall.cell (p := ⟨b, off + k4, none⟩) hb).trans (hc k4 (by omega))
                      have c1 : wr.cell? ⟨b', off' + k4, none⟩ = some (.slice (E.a k4) (E.l k4) (E.c k4)) := (hall.cell (p := ⟨b', off' + k4, none⟩) hb').trans (hc' k4 (by omega))
                      obtain ⟨e0, e1⟩ := O.at (k4 + 1) (by omega)
                      rw [Nat.zero_add] at e0 e1
                      have f0 := O.frozen ((k4 + 1) * 2)
                      have f1 := O.frozen ((k4 + 1) * 2 + 1)
                      have hl2 : (k4 : Int) < (m : Int) := by omega
                      have hl3 : k4 < m := by omega
                      have hl5 : k4 + 1 < n + 1 := by omega
                      have hl6 : ((k4 + 1 : Nat) : Int) < (n : Int) + 1 := by omega
                      have hwr : IntKind.i64.wrap ((k4 : Int) + 1) = ((k4 + 1 : Nat) : Int) := by rw [IntKind.wrap_i64]; omega
                      clear hc hc'
                      go_wp2
                      go_region
                      all_goals
                        go_wp2
                        go_roundw
                        case rel => exact ⟨k4 + 1, by omega, by omega, by go_num, (ins_step O (by omega) hpk).drew, ((hnx.setCell (by simp) _).setCell (by simp) _).drew⟩
                        case measure => simp [intOf]; omega
                    · have O5 : (E.ins p nk na nl nc n).Own wr w2.heap.size (n + 1) := by rw [show k4 = n by omega] at O; exact O
                      have O2' := O2.below hnx hg1
                      have hge4 : n ≤ k4 := by omega
                      clear O hlt4 hk4 hnx
                      by_cases hkn : (key.toList == nk.toList) = true
                      · by_cases hfp0 : f < p
                        · have hfp : f < p := hfp0
                          have HP : (key.toList == nk.toList) = true → f < p := fun _ => hfp
                          go_wp2_with (first
                            | (go_at_call_of 7 w2.heap.size; go_must (refine (get_same E _ _ f p nk key na nl nc _ _ (by omega) O6 hF hp HP).mono ?_; rintro e w7 ⟨rfl, hb7'⟩; have hb7 := ch hb6 hb7'; clear hb7'))
                            | (go_at_call 7; go_must (refine (get_first E _ _ _ f _ _ (by omega) (own_left O2' (Nat.le_refl _)) hF).mono ?_; rintro e w6 ⟨rfl, hb6'⟩; have O6 := O5.below hb6' O5.lt; have hb6 := ch hall hb6'; clear hb6')))
                          have hK7 := hK.below hb7
                          go_loop [25, 26] (fun e i => ∃ (k : Nat) (b : Bool), k ≤ p ∧ i = .int .i64 k ∧ e = .bool b ∧ Hid (b = decide (f < k))) (fun _ i => p - (intOf i).toNat)
                          case atStart => exact ⟨0, false, Nat.zero_le _, rfl, rfl, by show false = _; simp⟩
                          case round =>
                            obtain ⟨k5, b5, hk5, rfl, rfl, hb5⟩ := hrel
                            by_cases hlt5 : k5 < p
                            · obtain ⟨b, off, rfl, hb, hcell⟩ := hK7 (by omega)
                              have c0 := hcell k5 (by omega)
                              clear hcell
                              have hl7 : k5 < n := by omega
                              by_cases hh : ((E.k k5).toList == key.toList) = true
                              · go_wp2
                                go_round
                                case rel => exact ⟨k5 + 1, true, by omega, by go_num, rfl, early_hit hF hh⟩
                                case measure => simp [intOf]; omega
                              · have hh' : ((E.k k5).toList == key.toList) = false := by simpa using hh
                                clear hh
                                go_wp2
                                go_round
                                case rel => exact ⟨k5 + 1, b5, by omega, by go_num, rfl, by show b5 = _; rw [early_step hF hl7 hh']; exact hb5.out⟩
                                case measure => simp [intOf]; omega
                            · have hbe : b5 = decide (f < p) := by rw [← show k5 = p by omega]; exact hb5.out
                              have hge5 : p ≤ k5 := by omega
                              clear hb5 hlt5 hk5
                              have hbt : b5 = true := by rw [hbe]; simpa using hfp
                              clear hbe
                              subst hbt
                              go_wp2_with (go_at_call 8; go_must (refine (same_refl _ _ _ _ (got_ok hS hnm2).1 (got_ok hS hnm2).2).mono ?_; rintro e w8 ⟨rfl, hb8⟩))
                              go_ret
                              exact ⟨rfl, ch hb7 hb8⟩
                        · have hfp : p ≤ f := by omega
                          go_wp2_with (first
                            | (go_at_call_of 7 w2.heap.size; go_must (refine (get_new E _ _ f p nk key na nl nc _ _ (by omega) O6 hF hfp hkn).mono ?_; rintro e w7 ⟨rfl, hb7'⟩; have hb7 := ch hb6 hb7'; clear hb7'))
                            | (go_at_call 7; go_must (refine (get_first E _ _ _ f _ _ (by omega) (own_left O2' (Nat.le_refl _)) hF).mono ?_; rintro e w6 ⟨rfl, hb6'⟩; have O6 := O5.below hb6' O5.lt; have hb6 := ch hall hb6'; clear hb6')))
                          have hK7 := hK.below hb7
                          go_loop [25, 26] (fun e i => ∃ (k : Nat) (b : Bool), k ≤ p ∧ i = .int .i64 k ∧ e = .bool b ∧ Hid (b = decide (f < k))) (fun _ i => p - (intOf i).toNat)
                          case atStart => exact ⟨0, false, Nat.zero_le _, rfl, rfl, by show false = _; simp⟩
                          case round =>
                            obtain ⟨k5, b5, hk5, rfl, rfl, hb5⟩ := hrel
                            by_cases hlt5 : k5 < p
                            · obtain ⟨b, off, rfl, hb, hcell⟩ := hK7 (by omega)
                              have c0 := hcell k5 (by omega)
                              clear hcell
                              have hl7 : k5 < n := by omega
                              by_cases hh : ((E.k k5).toList == key.toList) = true
                              · go_wp2
                                go_round
                                case rel => exact ⟨k5 + 1, true, by omega, by go_num, rfl, early_hit hF hh⟩
                                case measure => simp [intOf]; omega
                              · have hh' : ((E.k k5).toList == key.toList) = false := by simpa using hh
                                clear hh
                                go_wp2
                                go_round
                                case rel => exact ⟨k5 + 1, b5, by omega, by go_num, rfl, by show b5 = _; rw [early_step hF hl7 hh']; exact hb5.out⟩
                                case measure => simp [intOf]; omega
                            · have hbe : b5 = decide (f < p) := by rw [← show k5 = p by omega]; exact hb5.out
                              have hge5 : p ≤ k5 := by omega
                              clear hb5 hlt5 hk5
                              have hbt : b5 = false := by rw [hbe]; simp; omega
                              clear hbe
                              subst hbt
                              go_wp2_with (go_at_call 8; go_must (refine (same_refl _ _ _ _ (by omega) hN).mono ?_; rintro e w8 ⟨rfl, hb8⟩))
                              go_ret
                              exact ⟨rfl, ch hb7 hb8⟩
                      · have hkn' : (key.toList == nk.toList) = false := by simpa using hkn
                        have HP : Hid ((key.toList == nk.toList) = true → f < p) := fun h => absurd h hkn
                        clear hkn
                        go_wp2_with (first
                          | (go_at_call_of 7 w2.heap.size; go_must (refine (get_same E _ _ f p nk key na nl nc _ _ (by omega) O6 hF hp HP.out).mono ?_; rintro e w7 ⟨rfl, hb7'⟩; have hb7 := ch hb6 hb7'; clear hb7'))
                          | (go_at_call 7; go_must (refine (get_first E _ _ _ f _ _ (by omega) (own_left O2' (Nat.le_refl _)) hF).mono ?_; rintro e w6 ⟨rfl, hb6'⟩; have O6 := O5.below hb6' O5.lt; have hb6 := ch hall hb6'; clear hb6')))
                        have hK7 := hK.below hb7
                        go_loop [25, 26] (fun e i => ∃ (k : Nat) (b : Bool), k ≤ p ∧ i = .int .i64 k ∧ e = .bool b ∧ Hid (b = decide (f < k))) (fun _ i => p - (intOf i).toNat)
                        case atStart => exact ⟨0, false, Nat.zero_le _, rfl, rfl, by show false = _; simp⟩
                        case round =>
                          obtain ⟨k5, b5, hk5, rfl, rfl, hb5⟩ := hrel
                          by_cases hlt5 : k5 < p
                          · obtain ⟨b, off, rfl, hb, hcell⟩ := hK7 (by omega)
                            have c0 := hcell k5 (by omega)
                            clear hcell
                            have hl7 : k5 < n := by omega
                            by_cases hh : ((E.k k5).toList == key.toList) = true
                            · go_wp2
                              go_round
                              case rel => exact ⟨k5 + 1, true, by omega, by go_num, rfl, early_hit hF hh⟩
                              case measure => simp [intOf]; omega
                            · have hh' : ((E.k k5).toList == key.toList) = false := by simpa using hh
                              clear hh
                              go_wp2
                              go_round
                              case rel => exact ⟨k5 + 1, b5, by omega, by go_num, rfl, by show b5 = _; rw [early_step hF hl7 hh']; exact hb5.out⟩
                              case measure => simp [intOf]; omega
                          · have hbe : b5 = decide (f < p) := by rw [← show k5 = p by omega]; exact hb5.out
                            have hge5 : p ≤ k5 := by omega
                            clear hb5 hlt5 hk5
                            clear hbe
                            go_wp2_with (go_at_call 8; go_must (refine (same_refl _ _ _ _ (got_ok hS hnm2).1 (got_ok hS hnm2).2).mono ?_; rintro e w8 ⟨rfl, hb8⟩))
                            go_ret
                            exact ⟨rfl, ch hb7 hb8⟩
          · have hnb : ((n : Int) != (m : Int)) = true := by simp; omega
            go_wp2
            go_ret
            exact ⟨rfl, Below.refl _ _⟩

set_option maxRecDepth 100000 in
set_option maxHeartbeats 4000000 in
theorem ins_big (E : Es) (ko vo : Option Addr) (n ck m cv : Nat) (pos : Int) (nk : ByteArray) (na : Option Addr) (nl nc : Nat) (key : ByteArray) (w : World) (hn : n ≤ 9223372036854775807) (hm : m ≤ 9223372036854775807)
    (hbig : (65536 : Int) < (n : Int) ∨ (65536 : Int) < (m : Int) ∨ (1048576 : Int) < (key.size : Int) ∨ (1048576 : Int) < (nk.size : Int) ∨ (1048576 : Int) < (nl : Int)) (hK : E.KIn w ko n) (hV : E.VIn w vo m) :
    Calls Try.prog 4 #[.slice ko n ck, .slice vo m cv, .int .i64 pos, .string nk, .slice na nl nc, .string key] w fun e w' => e = .returned (.bool true) ∧ Below w.heap.size w w' := by
  by_cases h0 : (65536 : Int) < (n : Int)
  · go_enter Try.func4, Try.ntmps4
    go_wp2_with (go_at_call 9; go_must (refine (small9_any E _ _ _ _ _ _ _ _ _ _ _ _ _ hn hm hK hV).mono ?_; rintro e w1 ⟨⟨o, rfl⟩, rfl⟩; cases o))
    all_goals go_ret
    all_goals exact ⟨rfl, Below.refl _ _⟩
  · by_cases h1 : (65536 : Int) < (m : Int)
    · go_enter Try.func4, Try.ntmps4
      go_wp2_with (go_at_call 9; go_must (refine (small9_any E _ _ _ _ _ _ _ _ _ _ _ _ _ hn hm hK hV).mono ?_; rintro e w1 ⟨⟨o, rfl⟩, rfl⟩; cases o))
      all_goals go_ret
      all_goals exact ⟨rfl, Below.refl _ _⟩
    · by_cases h2 : (1048576 : Int) < (key.size : Int)
      · go_enter Try.func4, Try.ntmps4
        go_wp2_with (go_at_call 9; go_must (refine (small9_any E _ _ _ _ _ _ _ _ _ _ _ _ _ hn hm hK hV).mono ?_; rintro e w1 ⟨⟨o, rfl⟩, rfl⟩; cases o))
        all_goals go_ret
        all_goals exact ⟨rfl, Below.refl _ _⟩
      · by_cases h3 : (1048576 : Int) < (nk.size : Int)
        · go_enter Try.func4, Try.ntmps4
          go_wp2_with (go_at_call 9; go_must (refine (small9_any E _ _ _ _ _ _ _ _ _ _ _ _ _ hn hm hK hV).mono ?_; rintro e w1 ⟨⟨o, rfl⟩, rfl⟩; cases o))
          all_goals go_ret
          all_goals exact ⟨rfl, Below.refl _ _⟩
        · have h4 : (1048576 : Int) < (nl : Int) := by omega
          go_enter Try.func4, Try.ntmps4
          go_wp2_with (go_at_call 9; go_must (refine (small9_any E _ _ _ _ _ _ _ _ _ _ _ _ _ hn hm hK hV).mono ?_; rintro e w1 ⟨⟨o, rfl⟩, rfl⟩; cases o))
          all_goals go_ret
          all_goals exact ⟨rfl, Below.refl _ _⟩
end Go.Proofs.Qxb6628263a
