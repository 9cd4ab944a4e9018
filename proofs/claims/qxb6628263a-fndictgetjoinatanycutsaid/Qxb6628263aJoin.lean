import Derived.Test.Qxb6628263aPlain
namespace Go.Proofs.Qxb6628263a
open Go.ChangeShapes Go.WideShapes Go.ChangeAt Go.RowKit

theorem ch {w a b : World} (h1 : Below w.heap.size w a) (h2 : Below a.heap.size a b) : Below w.heap.size w b := h1.trans (h2.mono h1.size)

set_option maxRecDepth 100000 in
set_option maxHeartbeats 4000000 in
theorem join_in (E : Es) (ko vo : Option Addr) (n ck m cv : Nat) (key : ByteArray) (cut : Int) (w : World) (hn : n ≤ 65536) (hm : m ≤ 65536) (hkey : key.size ≤ 1048576) (hK : E.KIn w ko n) (hV : E.VIn w vo m) (hS : E.Ok m) :
    Calls Try.prog 3 #[.slice ko n ck, .slice vo m cv, .string key, .int .i64 cut] w fun e w' => e = .returned (.bool true) ∧ Below w.heap.size w w' := by
  obtain ⟨f, hF⟩ := E.first_ex key n
  go_enter Try.func3, Try.ntmps3
  go_wp2_with (go_at_call 5; go_must (refine (small5_any E _ _ _ _ _ _ _ _ _ (by omega) (by omega) hK hV).mono ?_; rintro e w1 ⟨⟨o, rfl⟩, rfl⟩; cases o))
  · go_ret
    exact ⟨rfl, Below.refl _ _⟩
  go_loop [9, 10] (fun z i => ∃ k : Nat, k ≤ n ∧ i = .int .i64 k ∧ (∃ q : Int, z = .int .i64 q ∧ 0 ≤ q ∧ q ≤ 1048576)) (fun _ i => n - (intOf i).toNat)
  case atStart => exact ⟨0, Nat.zero_le _, rfl, ⟨_, rfl, by omega, by omega⟩⟩
  case round =>
    obtain ⟨k, hk, rfl, ⟨q, rfl, h0, h1⟩⟩ := hrel
    by_cases hlt : k < n
    · obtain ⟨b, off, rfl, hb, hc⟩ := hK (by omega)
      have c0 := hc k hlt
      clear hc
      go_wp2
      all_goals first
        | (go_ret; exact ⟨rfl, Below.refl _ _⟩)
        | (go_round
           case rel => exact ⟨k + 1, by omega, by go_num, ⟨_, rfl, by omega, by omega⟩⟩
           case measure => simp [intOf]; omega)
    · go_wp2
      go_loop [9, 11] (fun z i => ∃ k : Nat, k ≤ m ∧ i = .int .i64 k ∧ (∃ q : Int, z = .int .i64 q ∧ 0 ≤ q ∧ q ≤ 1048576)) (fun _ i => m - (intOf i).toNat)
      case atStart => exact ⟨0, Nat.zero_le _, rfl, ⟨_, rfl, by omega, by omega⟩⟩
      case round =>
        obtain ⟨k2, hk2, rfl, ⟨q2, rfl, h02, h12⟩⟩ := hrel
        by_cases hlt2 : k2 < m
        · obtain ⟨b, off, rfl, hb, hc⟩ := hV (by omega)
          have c0 := hc k2 hlt2
          clear hc
          go_wp2
          all_goals first
            | (go_ret; exact ⟨rfl, Below.refl _ _⟩)
            | (go_round
               case rel => exact ⟨k2 + 1, by omega, by go_num, ⟨_, rfl, by omega, by omega⟩⟩
               case measure => simp [intOf]; omega)
        · by_cases hnm : n = m
          · have HNM : Hid (n = m) := hnm
            have hnb : ((n : Int) != (m : Int)) = false := by simp [hnm]
            clear hnm
            by_cases hcut : cut < 0 ∨ (n : Int) < cut
            · by_cases hneg : cut < 0
              · go_wp2
                go_ret
                exact ⟨rfl, Below.refl _ _⟩
              · have hgt : (n : Int) < cut := by omega
                go_wp2
                go_ret
                exact ⟨rfl, Below.refl _ _⟩
            · obtain ⟨c, rfl⟩ : ∃ c : Nat, cut = (c : Int) := ⟨cut.toNat, by omega⟩
              have hc : c ≤ n := by omega
              clear hcut
              by_cases hfc : f < c
              · have hfn : f < n := by omega
                have hfm : f < m := by have := HNM.out; omega
                go_wp2_with (first
                  | (go_at_call 6; go_must (refine (dict_any E _ _ _ _ _ _ _ hn (by have := HNM.out; omega) hK hV).mono ?_; rintro e w2 ⟨rfl, O2, hb2⟩))
                  | (go_at_call_of 7 (n - c); go_must (refine (get_some (E.drop c) _ _ _ _ _ (by omega) (own_right O4 ?_)).mono ?_; (focus (intro hcn; first | rfl | rw [if_neg (by omega)])); rintro e w5 ⟨⟨va, vl, vc, vok, rfl⟩, hb5'⟩; have hb5 := ch hb4 hb5'; clear hb5' O4))
                  | (go_at_call_of 7 c; go_must (refine (get_hit E _ _ _ f _ _ (by omega) (own_left O3 hc) hfc (first_left hF hc hfc)).mono ?_; rintro e w4 ⟨rfl, hb4'⟩; have O4 := O3.below hb4' O3.lt; have hb4 := ch hb3 hb4'; clear hb4' O3))
                  | (go_at_call 7; go_must (refine (get_hit E _ _ _ f _ _ (by omega) (own_left O2 (Nat.le_refl _)) hfn hF).mono ?_; rintro e w3 ⟨rfl, hb3'⟩; have O3 := O2.below hb3' O2.lt; have hb3 := ch hb2 hb3'; clear hb3' O2))
                  | (go_at_call 8; go_must (refine (same_refl _ _ _ _ (hS f hfm).1 (hS f hfm).2).mono ?_; rintro e w6 ⟨rfl, hb6'⟩; have hb6 := ch hb5 hb6'; clear hb6')))
                all_goals try subst h
                all_goals
                  have hK6 := hK.below hb6
                  have hV6 := hV.below hb6
                  clear hb2 hb3 hb4 hb5
                  go_loop [21, 22] (fun x i => ∃ z xv : Int, i = .int .i64 z ∧ x = .int .i64 xv ∧ -1 ≤ z ∧ z < (n : Int) ∧ E.Idx key n z xv) (fun _ i => (intOf i + 1).toNat)
                  case atStart => exact ⟨_, _, rfl, rfl, by omega, by omega, idx_start E key n⟩
                  case round =>
                    obtain ⟨z, xv, rfl, rfl, hz0, hz1, hI⟩ := hrel
                    by_cases hz : 0 ≤ z
                    · obtain ⟨t, rfl⟩ : ∃ t : Nat, z = (t : Int) := ⟨z.toNat, by omega⟩
                      obtain ⟨b, off, rfl, hb, hcell⟩ := hK6 (by omega)
                      have c0 := hcell t (by omega)
                      clear hcell
                      by_cases hh : ((E.k t).toList == key.toList) = true
                      · go_wp2
                        go_round
                        case rel => exact ⟨_, _, rfl, rfl, by omega, by omega, idx_hit (by omega) hh⟩
                        case measure => (simp [intOf]; try omega)
                      · have hh' : ((E.k t).toList == key.toList) = false := by simpa using hh
                        clear hh
                        go_wp2
                        go_round
                        case rel => exact ⟨_, _, rfl, rfl, by omega, by omega, idx_miss hI hh'⟩
                        case measure => (simp [intOf]; try omega)
                    · have hx := idx_found (by omega) hI hF hfn
                      subst hx
                      obtain ⟨b, off, rfl, hb, hcell⟩ := hV6 (by omega)
                      have c0 := hcell f hfm
                      clear hcell
                      go_wp2_with (go_at_call 8; go_must (refine (same_refl _ _ _ _ (hS f hfm).1 (hS f hfm).2).mono ?_; rintro e w7 ⟨rfl, hb7⟩))
                      go_ret
                      exact ⟨rfl, ch hb6 hb7⟩
              · by_cases hfn : f < n
                · have hfm : f < m := by have := HNM.out; omega
                  have hcf : c ≤ f := by omega
                  go_wp2_with (first
                    | (go_at_call 6; go_must (refine (dict_any E _ _ _ _ _ _ _ hn (by have := HNM.out; omega) hK hV).mono ?_; rintro e w2 ⟨rfl, O2, hb2⟩))
                    | (go_at_call_of 7 (n - c); go_must (refine (get_right E _ _ _ _ f _ _ (by omega) (own_right O4 ?_) hcf hfn hF).mono ?_; (focus (intro hcn; first | rfl | rw [if_neg (by omega)])); rintro e w5 ⟨rfl, hb5'⟩; have hb5 := ch hb4 hb5'; clear hb5' O4))
                    | (go_at_call_of 7 c; go_must (refine (get_miss E _ _ _ _ _ (by omega) (own_left O3 hc) (first_left_none hF hcf)).mono ?_; rintro e w4 ⟨rfl, hb4'⟩; have O4 := O3.below hb4' O3.lt; have hb4 := ch hb3 hb4'; clear hb4' O3))
                    | (go_at_call 7; go_must (refine (get_hit E _ _ _ f _ _ (by omega) (own_left O2 (Nat.le_refl _)) hfn hF).mono ?_; rintro e w3 ⟨rfl, hb3'⟩; have O3 := O2.below hb3' O2.lt; have hb3 := ch hb2 hb3'; clear hb3' O2))
                    | (go_at_call 8; go_must (refine (same_refl _ _ _ _ (hS f hfm).1 (hS f hfm).2).mono ?_; rintro e w6 ⟨rfl, hb6'⟩; have hb6 := ch hb5 hb6'; clear hb6')))
                  all_goals try subst h
                  all_goals
                    have hK6 := hK.below hb6
                    have hV6 := hV.below hb6
                    clear hb2 hb3 hb4 hb5
                    go_loop [21, 22] (fun x i => ∃ z xv : Int, i = .int .i64 z ∧ x = .int .i64 xv ∧ -1 ≤ z ∧ z < (n : Int) ∧ E.Idx key n z xv) (fun _ i => (intOf i + 1).toNat)
                    case atStart => exact ⟨_, _, rfl, rfl, by omega, by omega, idx_start E key n⟩
                    case round =>
                      obtain ⟨z, xv, rfl, rfl, hz0, hz1, hI⟩ := hrel
                      by_cases hz : 0 ≤ z
                      · obtain ⟨t, rfl⟩ : ∃ t : Nat, z = (t : Int) := ⟨z.toNat, by omega⟩
                        obtain ⟨b, off, rfl, hb, hcell⟩ := hK6 (by omega)
                        have c0 := hcell t (by omega)
                        clear hcell
                        by_cases hh : ((E.k t).toList == key.toList) = true
                        · go_wp2
                          go_round
                          case rel => exact ⟨_, _, rfl, rfl, by omega, by omega, idx_hit (by omega) hh⟩
                          case measure => (simp [intOf]; try omega)
                        · have hh' : ((E.k t).toList == key.toList) = false := by simpa using hh
                          clear hh
                          go_wp2
                          go_round
                          case rel => exact ⟨_, _, rfl, rfl, by omega, by omega, idx_miss hI hh'⟩
                          case measure => (simp [intOf]; try omega)
                      · have hx := idx_found (by omega) hI hF hfn
                        subst hx
                        obtain ⟨b, off, rfl, hb, hcell⟩ := hV6 (by omega)
                        have c0 := hcell f hfm
                        clear hcell
                        go_wp2_with (go_at_call 8; go_must (refine (same_refl _ _ _ _ (hS f hfm).1 (hS f hfm).2).mono ?_; rintro e w7 ⟨rfl, hb7⟩))
                        go_ret
                        exact ⟨rfl, ch hb6 hb7⟩

                · have hFn : E.First key n n := by have := hF.1; have e : f = n := by omega
                                                   rw [e] at hF; exact hF
                  go_wp2_with (first
                    | (go_at_call 6; go_must (refine (dict_any E _ _ _ _ _ _ _ hn (by have := HNM.out; omega) hK hV).mono ?_; rintro e w2 ⟨rfl, O2, hb2⟩))
                    | (go_at_call_of 7 (n - c); go_must (refine (get_miss (E.drop c) _ _ _ _ _ (by omega) (own_right O4 ?_) (first_right hFn hc)).mono ?_; (focus (intro hcn; first | rfl | rw [if_neg (by omega)])); rintro e w5 ⟨rfl, hb5'⟩; have hb5 := ch hb4 hb5'; clear hb5' O4))
                    | (go_at_call_of 7 c; go_must (refine (get_miss E _ _ _ _ _ (by omega) (own_left O3 hc) (first_left_none hFn hc)).mono ?_; rintro e w4 ⟨rfl, hb4'⟩; have O4 := O3.below hb4' O3.lt; have hb4 := ch hb3 hb4'; clear hb4' O3))
                    | (go_at_call 7; go_must (refine (get_miss E _ _ _ _ _ (by omega) (own_left O2 (Nat.le_refl _)) hFn).mono ?_; rintro e w3 ⟨rfl, hb3'⟩; have O3 := O2.below hb3' O2.lt; have hb3 := ch hb2 hb3'; clear hb3' O2))
                    | (go_at_call 8; go_must (refine (same_refl none 0 0 _ (by omega) (fun h => by omega)).mono ?_; rintro e w6 ⟨rfl, hb6'⟩; have hb6 := ch hb5 hb6'; clear hb6')))
                  all_goals try subst h
                  all_goals
                    have hK6 := hK.below hb6
                    have hV6 := hV.below hb6
                    clear hb2 hb3 hb4 hb5
                    go_loop [21, 22] (fun x i => ∃ z xv : Int, i = .int .i64 z ∧ x = .int .i64 xv ∧ -1 ≤ z ∧ z < (n : Int) ∧ E.Idx key n z xv) (fun _ i => (intOf i + 1).toNat)
                    case atStart => exact ⟨_, _, rfl, rfl, by omega, by omega, idx_start E key n⟩
                    case round =>
                      obtain ⟨z, xv, rfl, rfl, hz0, hz1, hI⟩ := hrel
                      by_cases hz : 0 ≤ z
                      · obtain ⟨t, rfl⟩ : ∃ t : Nat, z = (t : Int) := ⟨z.toNat, by omega⟩
                        obtain ⟨b, off, rfl, hb, hcell⟩ := hK6 (by omega)
                        have c0 := hcell t (by omega)
                        clear hcell
                        by_cases hh : ((E.k t).toList == key.toList) = true
                        · go_wp2
                          go_round
                          case rel => exact ⟨_, _, rfl, rfl, by omega, by omega, idx_hit (by omega) hh⟩
                          case measure => (simp [intOf]; try omega)
                        · have hh' : ((E.k t).toList == key.toList) = false := by simpa using hh
                          clear hh
                          go_wp2
                          go_round
                          case rel => exact ⟨_, _, rfl, rfl, by omega, by omega, idx_miss hI hh'⟩
                          case measure => (simp [intOf]; try omega)
                      · have hx := idx_none hI hFn
                        subst hx
                        have hnil := fun wx => Lib.run_eql_slice_nil (P := Try.prog) wx 25 5 none 0 0 0 0 Try.underlying25
                        go_wp2
                        go_ret
                        exact ⟨rfl, hb6⟩

          · have hnb : ((n : Int) != (m : Int)) = true := by simp; omega
            go_wp2
            go_ret
            exact ⟨rfl, Below.refl _ _⟩

set_option maxRecDepth 100000 in
set_option maxHeartbeats 2000000 in
theorem join_big (E : Es) (ko vo : Option Addr) (n ck m cv : Nat) (key : ByteArray) (cut : Int) (w : World) (hn : n ≤ 9223372036854775807) (hm : m ≤ 9223372036854775807) (hbig : (65536 : Int) < (n : Int) ∨ (65536 : Int) < (m : Int) ∨ (1048576 : Int) < (key.size : Int)) (hK : E.KIn w ko n) (hV : E.VIn w vo m) :
    Calls Try.prog 3 #[.slice ko n ck, .slice vo m cv, .string key, .int .i64 cut] w fun e w' => e = .returned (.bool true) ∧ Below w.heap.size w w' := by
  by_cases h1 : (65536 : Int) < (n : Int)
  · go_enter Try.func3, Try.ntmps3
    go_wp2_with (go_at_call 5; go_must (refine (small5_any E _ _ _ _ _ _ _ _ _ hn hm hK hV).mono ?_; rintro e w1 ⟨⟨o, rfl⟩, rfl⟩; cases o))
    all_goals go_ret
    all_goals exact ⟨rfl, Below.refl _ _⟩
  · by_cases h2 : (65536 : Int) < (m : Int)
    · go_enter Try.func3, Try.ntmps3
      go_wp2_with (go_at_call 5; go_must (refine (small5_any E _ _ _ _ _ _ _ _ _ hn hm hK hV).mono ?_; rintro e w1 ⟨⟨o, rfl⟩, rfl⟩; cases o))
      all_goals go_ret
      all_goals exact ⟨rfl, Below.refl _ _⟩
    · have h3 : (1048576 : Int) < (key.size : Int) := by omega
      go_enter Try.func3, Try.ntmps3
      go_wp2_with (go_at_call 5; go_must (refine (small5_any E _ _ _ _ _ _ _ _ _ hn hm hK hV).mono ?_; rintro e w1 ⟨⟨o, rfl⟩, rfl⟩; cases o))
      all_goals go_ret
      all_goals exact ⟨rfl, Below.refl _ _⟩
end Go.Proofs.Qxb6628263a
