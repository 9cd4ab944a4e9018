import Derived.Test.Qxb6628263aFrom
namespace Go.Proofs.Qxb6628263a
open Go.ChangeShapes Go.WideShapes Go.ChangeAt Go.RowKit

/-- The call hands back a bool. -/
def RetB (e : Ending) : Prop := ∃ o : Bool, e = .returned (.bool o)

set_option maxRecDepth 100000 in
set_option maxHeartbeats 2000000 in
theorem small5_any (E : Es) (ko vo : Option Addr) (n ck m cv : Nat) (key : ByteArray) (cut : Int) (w : World) (_hn : n ≤ 9223372036854775807) (_hm : m ≤ 9223372036854775807) (hK : E.KIn w ko n) (hV : E.VIn w vo m) :
    Calls Try.prog 5 #[.slice ko n ck, .slice vo m cv, .string key, .int .i64 cut] w fun e w' => RetB e ∧ w' = w := by
  by_cases hbig : 1048576 < n
  · have hbig' : (1048576 : Int) < (n : Int) := by omega
    go_enter Try.func5, Try.ntmps5
    go_wp2
    go_ret
    exact ⟨⟨false, rfl⟩, rfl⟩
  · have hbig' : (n : Int) ≤ (1048576 : Int) := by omega
    go_enter Try.func5, Try.ntmps5
    go_wp2
    go_loop [9, 10] (fun z i => ∃ k : Nat, k ≤ n ∧ i = .int .i64 k ∧ (∃ q : Int, z = .int .i64 q ∧ 0 ≤ q ∧ q ≤ 1048576)) (fun _ i => n - (intOf i).toNat)
    case atStart => exact ⟨0, Nat.zero_le _, rfl, ⟨_, rfl, by omega, by omega⟩⟩
    case round =>
      obtain ⟨k, hk, rfl, ⟨q, rfl, h0, h1⟩⟩ := hrel
      by_cases hlt : k < n
      · obtain ⟨b, off, rfl, hb, hc⟩ := hK (by omega)
        have c0 := hc k hlt
        clear hc
        go_wp2
        all_goals first
          | (go_ret; exact ⟨⟨false, rfl⟩, rfl⟩)
          | (go_round
             case rel => exact ⟨k + 1, by omega, by go_num, ⟨_, rfl, by omega, by omega⟩⟩
             case measure => simp [intOf]; omega)
      · clear hK
        go_wp2
        all_goals try (go_ret; exact ⟨⟨false, rfl⟩, rfl⟩)
        have hlb : m ≤ 1048576 := by omega
        go_loop [9, 11] (fun z i => ∃ k : Nat, k ≤ m ∧ i = .int .i64 k ∧ (∃ q : Int, z = .int .i64 q ∧ 0 ≤ q ∧ q ≤ 1048576)) (fun _ i => m - (intOf i).toNat)
        case atStart => exact ⟨0, Nat.zero_le _, rfl, ⟨_, rfl, by omega, by omega⟩⟩
        case round =>
          obtain ⟨k, hk, rfl, ⟨q, rfl, h0, h1⟩⟩ := hrel
          by_cases hlt : k < m
          · obtain ⟨b, off, rfl, hb, hc⟩ := hV (by omega)
            have c0 := hc k hlt
            clear hc
            go_wp2
            all_goals first
              | (go_ret; exact ⟨⟨false, rfl⟩, rfl⟩)
              | (go_round
                 case rel => exact ⟨k + 1, by omega, by go_num, ⟨_, rfl, by omega, by omega⟩⟩
                 case measure => simp [intOf]; omega)
          · clear hV
            go_wp2
            all_goals go_ret
            all_goals first | exact ⟨⟨false, rfl⟩, rfl⟩ | exact ⟨⟨true, rfl⟩, rfl⟩
end Go.Proofs.Qxb6628263a
