import Derived.Test.Qxb6613862aLeaf
namespace Go.Proofs.Qxb6613862a
open Go.RowKit

set_option maxHeartbeats 800000 in
theorem zz16_any (ao : Option Addr) (b off L cap : Nat) (cut : Int) (P : Nat → ByteArray) (A : Nat → Int) (B : Nat → Bool) (w : World) (N : Nat) (hd : Deals w N ao b off L P A B) :
    Calls Try.prog 16 #[.slice ao L cap, .int .i64 cut] w (BPost L P w) := by
  have HD := hide hd
  clear hd
  go_enter Try.func16, Try.ntmps16
  go_wp2
  all_goals try (go_ret; exact ⟨false, rfl, rfl, fun h => by cases h⟩)
  go_loop [5, 6] (fun z i => ∃ (k : Nat) (q : Int), k ≤ L ∧ i = .int .i64 k ∧ z = .int .i64 q ∧ 0 ≤ q ∧ q ≤ 1048576 ∧ Hid (∀ i, i < k → (P i).size ≤ 1048576)) (fun _ i => L - (intOf i).toNat)
  case atStart => exact ⟨0, _, Nat.zero_le _, rfl, rfl, by omega, by omega, fun i h => absurd h (Nat.not_lt_zero _)⟩
  case round =>
    obtain ⟨k, q, hk, rfl, rfl, hq0, hq1, hall⟩ := hrel
    by_cases hlt : k < L
    · obtain rfl := HD.out.at_ (by omega)
      have hc := HD.out.party k hlt
      go_wp2
      all_goals first
        | (go_ret; exact ⟨false, rfl, rfl, fun h => by cases h⟩)
        | (go_round
           case rel =>
             refine ⟨k + 1, _, by omega, by go_num, rfl, by omega, by omega, fun i hi => ?_⟩
             rcases Nat.lt_or_ge i k with h' | h'
             · exact hall.out i h'
             · obtain rfl : i = k := by omega
               omega
           case measure => simp [intOf]; omega)
    · go_wp2
      go_ret
      exact ⟨true, rfl, rfl, fun _ i hi => hall.out i (by omega)⟩
end Go.Proofs.Qxb6613862a
