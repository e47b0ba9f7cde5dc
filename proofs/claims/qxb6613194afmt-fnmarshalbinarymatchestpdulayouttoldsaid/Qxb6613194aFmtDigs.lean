import Derived.Test.Qxb6613194aFmtSmall2
namespace Go.Proofs.Qxb6613194aFmt
open Go.RowKit

theorem tup_dig {a b : Int} {c : Bool} (h : a = b) : Ending.returned (.tuple #[.int .u8 a, .bool c]) = .returned (.tuple #[.int .u8 b, .bool c]) := by rw [h]

set_option maxHeartbeats 400000 in
theorem dig_any (c : Int) (w : World) (h0 : 0 ≤ c) (h1 : c ≤ 255) :
    Calls Tryf.prog 13 #[.int .u8 c] w fun e w' => e = .returned (.tuple #[.int .u8 (Pl.digV c), .bool (Pl.isDig c)]) ∧ w' = w := by
  by_cases hd : Pl.isDig c = true
  · rw [hd]
    rw [Pl.isDig_iff] at hd
    rcases hd with h | rfl | rfl | h
    · have hv : Pl.digV c = c - 48 := by unfold Pl.digV; rw [if_pos h]
      rw [hv]
      obtain ⟨ha, hb⟩ := h
      clear hv
      go_enter Tryf.func13, Tryf.ntmps13
      go_wp2
      go_ret2
      exact ⟨rfl, rfl⟩
    · go_enter Tryf.func13, Tryf.ntmps13
      go_wp2
      go_ret2
      exact ⟨rfl, rfl⟩
    · go_enter Tryf.func13, Tryf.ntmps13
      go_wp2
      go_ret2
      exact ⟨rfl, rfl⟩
    · have hv : Pl.digV c = 12 + (c - 97) := by unfold Pl.digV; rw [if_neg (by omega), if_neg (by omega), if_neg (by omega), if_pos h]; omega
      rw [hv]
      obtain ⟨ha, hb⟩ := h
      have hne1 : (c == 42) = false := by simp; omega
      have hne2 : (c == 35) = false := by simp; omega
      clear hv
      go_enter Tryf.func13, Tryf.ntmps13
      go_wp2
      go_ret2
      exact ⟨rfl, rfl⟩
  · have hne : ¬ ((48 ≤ c ∧ c ≤ 57) ∨ c = 42 ∨ c = 35 ∨ (97 ≤ c ∧ c ≤ 99)) := by rw [← Pl.isDig_iff]; exact hd
    have hf : Pl.isDig c = false := by simpa using hd
    have hv : Pl.digV c = 0 := by unfold Pl.digV; rw [if_neg (by omega), if_neg (by omega), if_neg (by omega), if_neg (by omega)]
    rw [hf, hv]
    have hne1 : (c == 42) = false := by simp; omega
    have hne2 : (c == 35) = false := by simp; omega
    clear hv hf hd
    go_enter Tryf.func13, Tryf.ntmps13
    go_wp2
    all_goals (go_ret2; exact ⟨rfl, rfl⟩)

/-- allDigits. -/
def ADPost (s : ByteArray) (w : World) (e : Ending) (w' : World) : Prop := ∃ b, e = .returned (.bool b) ∧ w = w' ∧ (b = true ↔ ∀ i, i < s.size → Pl.isDig (sb s i) = true)

set_option maxHeartbeats 400000 in
theorem allDig_any (s : ByteArray) (w : World) (hs : s.size ≤ 1048576) : Calls Tryf.prog 12 #[.string s] w (ADPost s w) := by
  go_enter Tryf.func12, Tryf.ntmps12
  go_wp2
  go_loop [3] (fun i => ∃ k : Nat, k ≤ s.size ∧ i = .int .i64 k ∧ Hid (∀ i, i < k → Pl.isDig (sb s i) = true)) (fun i => s.size - (intOf i).toNat)
  case atStart => exact ⟨0, Nat.zero_le _, rfl, fun i h => absurd h (Nat.not_lt_zero _)⟩
  case round =>
    obtain ⟨k, hk, rfl, hall⟩ := hrel
    by_cases hlt : k < s.size
    · have hse := sb_eq s k hlt
      have hb := sb_bd s k
      have hb' : s[k].toNat ≤ 255 := by omega
      go_wp2_with fail
      refine (dig_any _ _ (by omega) (by omega)).mono ?_
      rintro e w' ⟨rfl, rfl⟩
      cases hd : Pl.isDig (sb s k) with
      | true =>
        have HD := hide hd
        clear hd
        go_wp2
        go_round
        case rel =>
          refine ⟨k + 1, by omega, by go_num, fun i hi => ?_⟩
          rcases Nat.lt_or_ge i k with h' | h'
          · exact hall.out i h'
          · obtain rfl : i = k := by omega
            exact HD.out
        case measure => simp [intOf]; omega
      | false =>
        have HD := hide hd
        clear hd
        go_wp2
        go_ret
        refine ⟨false, rfl, rfl, ⟨fun h => (by cases h), fun h => ?_⟩⟩
        have := h k hlt
        rw [HD.out] at this
        cases this
    · obtain rfl : k = s.size := by omega
      go_wp2
      go_ret
      exact ⟨true, rfl, rfl, ⟨fun _ => hall.out, fun _ => rfl⟩⟩
end Go.Proofs.Qxb6613194aFmt
