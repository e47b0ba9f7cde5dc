import Derived.Test.Qxb6613194aFmtRows
import Derived.Test.Qxb6613194aFmtPlain
import Derived.WalkKit
import Derived.WalkSpells
import Derived.WalkLawsBesides
namespace Go.Proofs.Qxb6613194aFmt
open Go.RowKit

theorem ret_int {k : IntKind} {a b : Int} (h : a = b) : Ending.returned (.int k a) = .returned (.int k b) := by rw [h]

set_option maxHeartbeats 400000 in
theorem units_any (d u : Int) (w : World) (h0 : 0 ≤ d) (h1 : d ≤ 40000000000000000) (h2 : 0 < u) (h3 : u ≤ 40000000000000000) :
    Calls Tryf.prog 27 #[.int .i64 d, .int .i64 u] w fun e w' => e = .returned (.int .i64 ((d + u - 1) / u)) ∧ w' = w := by
  go_enter Tryf.func27, Tryf.ntmps27
  go_wp2
  go_ret
  exact ⟨rfl, rfl⟩

set_option maxHeartbeats 400000 in
theorem hseptets_any (n : Int) (w : World) (h0 : 0 ≤ n) (h1 : n ≤ 1000000000) :
    Calls Tryf.prog 28 #[.int .i64 n] w fun e w' => e = .returned (.int .i64 ((n * 8 + 6) / 7)) ∧ w' = w := by
  go_enter Tryf.func28, Tryf.ntmps28
  go_wp2
  go_ret
  exact ⟨rfl, rfl⟩

set_option maxHeartbeats 400000 in
theorem rvp_any (d : Int) (w : World) (h0 : 0 < d) (h1 : d ≤ 9223372036854775807) :
    Calls Tryf.prog 21 #[.int .i64 d] w fun e w' => e = .returned (.int .u8 (Pl.rvp d)) ∧ w' = w := by
  go_enter Tryf.func21, Tryf.ntmps21
  go_wp2
  all_goals
    go_ret
    refine ⟨ret_int ?_, rfl⟩
    unfold Pl.rvp
    repeat' split
    all_goals try omega

set_option maxHeartbeats 400000 in
theorem vpP_any (v : Int) (w : World) (h0 : -1 ≤ v) (h1 : v ≤ 255) :
    Calls Tryf.prog 24 #[.int .i64 v] w fun e w' => e = .returned (.int .i64 (Pl.vpP v)) ∧ w' = w := by
  go_enter Tryf.func24, Tryf.ntmps24
  go_wp2
  all_goals
    go_ret
    refine ⟨ret_int ?_, rfl⟩
    unfold Pl.vpP
    repeat' split
    all_goals try omega

end Go.Proofs.Qxb6613194aFmt
