import Derived.Test.Qxb6613194aFmtErrs
import Derived.Test.Qxb6613194aFmtLeaf
import Derived.WalkKit
import Derived.WalkSpells
import Derived.WalkLawsBesides
namespace Go.Proofs.Qxb6613194aFmt
open Go.RowKit Go.Extern.Stop Go.Stop Go.Extern
attribute [local go_sem] call30 fguard fmtA op5_113 ptr71 elem71 isError71

/-- 'v' is a new error of errors.New's make, beside the result r. -/
def BadAt (t : TypeId) (r : Value) (w : World) (e : Ending) (w' : World) : Prop :=
  ∃ a s, e = .returned (.tuple #[r, .iface t (.pointer (some a))]) ∧ w'.cell? a = some (.string s) ∧ Below w.heap.size w w'

set_option maxHeartbeats 400000 in
theorem value_ok (c : Int) (w : World) (h0 : 0 ≤ c) (h1 : c ≤ 255) (hd : Pl.isDig c = true) :
    Calls Tryf.prog 32 #[.int .u8 c] w fun e w' => e = .returned (.tuple #[.int .u8 (Pl.digV c), .nilIface]) ∧ w' = w := by
  rw [Pl.isDig_iff] at hd
  rcases hd with h | rfl | rfl | h
  · have hv : Pl.digV c = c - 48 := by unfold Pl.digV; rw [if_pos h]
    rw [hv]
    obtain ⟨ha, hb⟩ := h
    clear hv
    go_enter Tryf.func32, Tryf.ntmps32
    go_wp2
    go_ret2
    exact ⟨rfl, rfl⟩
  · go_enter Tryf.func32, Tryf.ntmps32
    go_wp2
    go_ret2
    exact ⟨rfl, rfl⟩
  · go_enter Tryf.func32, Tryf.ntmps32
    go_wp2
    go_ret2
    exact ⟨rfl, rfl⟩
  · have hv : Pl.digV c = 12 + c - 97 := by unfold Pl.digV; rw [if_neg (by omega), if_neg (by omega), if_neg (by omega), if_pos h]
    rw [hv]
    obtain ⟨ha, hb⟩ := h
    have hne1 : (c == 42) = false := by simp; omega
    have hne2 : (c == 35) = false := by simp; omega
    clear hv
    go_enter Tryf.func32, Tryf.ntmps32
    go_wp2
    go_ret2
    exact ⟨rfl, rfl⟩

set_option maxHeartbeats 800000 in
theorem value_bad (c : Int) (w : World) (h0 : 0 ≤ c) (h1 : c ≤ 255) (hd : Pl.isDig c = false) :
    Calls Tryf.prog 32 #[.int .u8 c] w (BadAt 71 (.int .u8 0) w) := by
  have hne : ¬ ((48 ≤ c ∧ c ≤ 57) ∨ c = 42 ∨ c = 35 ∨ (97 ≤ c ∧ c ≤ 99)) := by
    rw [← Pl.isDig_iff, hd]; simp
  have hne1 : (c == 42) = false := by simp; omega
  have hne2 : (c == 35) = false := by simp; omega
  clear hd
  go_enter Tryf.func32, Tryf.ntmps32
  go_wp2
  all_goals go_ret2
  all_goals exact ⟨_, _, rfl, by go_simp; rfl, (((Below.refl _ _).alloc (Nat.le_refl _) _).alloc (by simp) _).drew⟩
end Go.Proofs.Qxb6613194aFmt
