import Derived.Test.Qxb6628263aSmall5
namespace Go.Proofs.Qxb6628263a
open Go.ChangeShapes Go.WideShapes Go.ChangeAt Go.RowKit

set_option maxRecDepth 100000 in
set_option maxHeartbeats 2000000 in
theorem small9_any (E : Es) (ko vo : Option Addr) (n ck m cv : Nat) (pos : Int) (nk : ByteArray) (na : Option Addr) (nl nc : Nat) (key : ByteArray) (w : World) (_hn : n ≤ 9223372036854775807) (_hm : m ≤ 9223372036854775807) (hK : E.KIn w ko n) (hV : E.VIn w vo m) :
    Calls Try.prog 9 #[.slice ko n ck, .slice vo m cv, .int .i64 pos, .string nk, .slice na nl nc, .string key] w fun e w' => RetB e ∧ w' = w := by
  by_cases hbig : 1048576 < n
  · have hbig' : (1048576 : Int) < (n : Int) := by omega
    go_enter Try.func9, Try.ntmps9
    go_wp2
    go_ret
    exact ⟨⟨false, rfl⟩, rfl⟩
  · have hbig' : (n : Int) ≤ (1048576 : Int) := by omega
    go_enter Try.func9, Try.ntmps9
    go_wp2
    go_loop [13, 14] (fun z i => ∃ k : Nat, k ≤ n ∧ i = .int .i64 k ∧ (∃ q : Int, z = .int .i64 q ∧ 0 ≤ q ∧ q ≤ 1048576)) (fun _ i => n - (intOf i).toNat)
    case atStart => exact ⟨0, Nat.zero_le _, rfl, ⟨_, rfl, by omega, by omega⟩⟩
    case round =>
      obtain ⟨k, hk, rfl, ⟨q, rfl, h0, h1⟩⟩ := hrel
      by_cases hlt : k < n
      · obtain ⟨b, off, rfl, hb, hc⟩ := hK (by omega)
        have c0 := hc k hlt
        clear hc
        go_wp2
        all_goals first
          | (go_ret; exact ⟨⟨false, rfl⟩, rfl⟩)
          | (go_round
             case rel => exact ⟨k + 1, by omega, by go_num, ⟨_, rfl, by omega, by omega⟩⟩
             case measure => simp [intOf]; omega)
      · clear hK
        go_wp2
        all_goals try (go_ret; exact ⟨⟨false, rfl⟩, rfl⟩)
        have hlb : m ≤ 1048576 := by omega
        go_loop [13, 15] (fun z i => ∃ k : Nat, k ≤ m ∧ i = .int .i64 k ∧ (∃ q : Int, z = .int .i64 q ∧ 0 ≤ q ∧ q ≤ 1048576)) (fun _ i => m - (intOf i).toNat)
        case atStart => exact ⟨0, Nat.zero_le _, rfl, ⟨_, rfl, by omega, by omega⟩⟩
        case round =>
          obtain ⟨k, hk, rfl, ⟨q, rfl, h0, h1⟩⟩ := hrel
          by_cases hlt : k < m
          · obtain ⟨b, off, rfl, hb, hc⟩ := hV (by omega)
            have c0 := hc k hlt
            clear hc
            go_wp2
            all_goals first
              | (go_ret; exact ⟨⟨false, rfl⟩, rfl⟩)
              | (go_round
                 case rel => exact ⟨k + 1, by omega, by go_num, ⟨_, rfl, by omega, by omega⟩⟩
                 case measure => simp [intOf]; omega)
          · clear hV
            go_wp2
            all_goals go_ret
            all_goals first | exact ⟨⟨false, rfl⟩, rfl⟩ | exact ⟨⟨true, rfl⟩, rfl⟩
end Go.Proofs.Qxb6628263a
