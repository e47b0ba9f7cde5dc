import Derived.Test.Qxb6613862aRt
namespace Go.Proofs.Qxb6613862a
open Go.RowKit

theorem share_any (w : World) : Calls Try.prog 24 #[] w fun e w' => e = .returned (.int .i64 3) ∧ w = w' := by
  go_enter Try.func24, Try.ntmps24
  go_wp2
  go_ret
  exact ⟨rfl, rfl⟩

def minIfP (x : Int) (on : Bool) (y : Int) : Int := if on then min x y else x
theorem minIf_any (x y : Int) (on : Bool) (w : World) : Calls Try.prog 26 #[.int .i32 x, .bool on, .int .i32 y] w fun e w' => e = .returned (.int .i32 (minIfP x on y)) ∧ w = w' := by
  cases on
  · go_enter Try.func26, Try.ntmps26
    go_wp2
    go_ret
    exact ⟨rfl, rfl⟩
  · by_cases h : y < x
    · have e : minIfP x true y = y := by simp [minIfP]; omega
      rw [e]
      clear e
      go_enter Try.func26, Try.ntmps26
      go_wp2
      go_ret
      exact ⟨rfl, rfl⟩
    · have e : minIfP x true y = x := by simp [minIfP]; omega
      rw [e]
      clear e
      go_enter Try.func26, Try.ntmps26
      go_wp2
      go_ret
      exact ⟨rfl, rfl⟩

def ZBPost (w : World) (e : Ending) (w' : World) : Prop := ∃ b, e = .returned (.bool b) ∧ w = w'
theorem zz17_any (ao : Option Addr) (L cap : Nat) (fr cut body : Int) (ro : Option Addr) (n rc : Nat) (at_ : Int) (w : World) :
    Calls Try.prog 17 #[.slice ao L cap, .int .i64 fr, .int .i64 cut, .int .i64 body, .slice ro n rc, .int .i32 at_] w (ZBPost w) := by
  go_enter Try.func17, Try.ntmps17
  go_wp2
  all_goals (go_ret; exact ⟨_, rfl, rfl⟩)
theorem zz27_any (ao : Option Addr) (L cap : Nat) (fa ba aa fb bb ab : Int) (ro : Option Addr) (n rc : Nat) (w : World) :
    Calls Try.prog 27 #[.slice ao L cap, .int .i64 fa, .int .i64 ba, .int .i32 aa, .int .i64 fb, .int .i64 bb, .int .i32 ab, .slice ro n rc] w (ZBPost w) := by
  go_enter Try.func27, Try.ntmps27
  go_wp2
  all_goals (go_ret; exact ⟨_, rfl, rfl⟩)

def OutPost (L n : Nat) (h : Nat → Int) (w : World) (e : Ending) (w' : World) : Prop := ∃ b, e = .returned (.bool b) ∧ w = w' ∧ (b = false → L ≤ 65536 ∧ n ≤ 65536 ∧ ∀ i, i < L → 0 ≤ h i ∧ h i < n)
set_option maxHeartbeats 800000 in
theorem outside_any (ao : Option Addr) (b off L cap : Nat) (h : Nat → Int) (ro : Option Addr) (n rc : Nat) (w : World) (N : Nat) (hi : Ints w N ao b off L h) :
    Calls Try.prog 18 #[.slice ao L cap, .slice ro n rc] w (OutPost L n h w) := by
  have HI := hide hi
  clear hi
  go_enter Try.func18, Try.ntmps18
  go_wp2
  all_goals try (go_ret; exact ⟨true, rfl, rfl, fun h => by cases h⟩)
  go_loop [5] (fun i => ∃ (k : Nat), k ≤ L ∧ i = .int .i64 k ∧ Hid (∀ i, i < k → 0 ≤ h i ∧ h i < n)) (fun i => L - (intOf i).toNat)
  case atStart => exact ⟨0, Nat.zero_le _, rfl, fun i h => absurd h (Nat.not_lt_zero _)⟩
  case round =>
    obtain ⟨k, hk, rfl, hall⟩ := hrel
    by_cases hlt : k < L
    · obtain rfl := HI.out.at_ (by omega)
      have hc := HI.out.cell k hlt
      have hbd := HI.out.bd k hlt
      go_wp2
      all_goals first
        | (go_ret; exact ⟨true, rfl, rfl, fun h => by cases h⟩)
        | (go_round
           case rel =>
             refine ⟨k + 1, by omega, by go_num, fun i hi => ?_⟩
             rcases Nat.lt_or_ge i k with h' | h'
             · exact hall.out i h'
             · obtain rfl : i = k := by omega
               omega
           case measure => simp [intOf]; omega)
    · go_wp2
      go_ret
      exact ⟨false, rfl, rfl, fun _ => ⟨by omega, by omega, fun i hi => hall.out i (by omega)⟩⟩
end Go.Proofs.Qxb6613862a
