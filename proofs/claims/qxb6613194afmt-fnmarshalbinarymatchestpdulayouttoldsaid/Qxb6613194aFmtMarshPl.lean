import Derived.Test.Qxb6613194aFmtUdPl
import Derived.Test.Qxb6613194aFmtPlain
namespace Go.Proofs.Qxb6613194aFmt.Pl

/-- TP-VPF and its kin: the first octet, flag by flag. -/
def f1 (rd : Bool) : Int := if rd = true then 5 else 1
def f2 (rd : Bool) (vp : Int) : Int := if 0 < vp then f1 rd + 16 else f1 rd
def f3 (rd : Bool) (vp : Int) (srr : Bool) : Int := if srr = true then f2 rd vp + 32 else f2 rd vp
def f4 (rd : Bool) (vp : Int) (srr : Bool) (hn : Nat) : Int := if 0 < hn then f3 rd vp srr + 64 else f3 rd vp srr

theorem f1_bd (rd : Bool) : f1 rd = 1 ∨ f1 rd = 5 := by cases rd <;> simp [f1]
theorem f2_bd (rd : Bool) (vp : Int) : f2 rd vp = 1 ∨ f2 rd vp = 5 ∨ f2 rd vp = 17 ∨ f2 rd vp = 21 := by
  have := f1_bd rd
  unfold f2
  split <;> omega
theorem f3_bd (rd : Bool) (vp : Int) (srr : Bool) : 0 ≤ f3 rd vp srr ∧ f3 rd vp srr ≤ 63 := by
  have := f2_bd rd vp
  unfold f3
  split <;> omega
theorem f4_bd (rd : Bool) (vp : Int) (srr : Bool) (hn : Nat) : 0 ≤ f4 rd vp srr hn ∧ f4 rd vp srr hn ≤ 127 := by
  have := f3_bd rd vp srr
  unfold f4
  split <;> omega

theorem or16 (rd : Bool) (vp : Int) (h : 0 < vp) : bits .or .u8 (f1 rd) 16 = f2 rd vp := by
  rw [f2, if_pos h]
  rcases f1_bd rd with e | e <;> rw [e] <;> decide +kernel
theorem or32 (rd : Bool) (vp : Int) : bits .or .u8 (f2 rd vp) 32 = f3 rd vp true := by
  rw [f3, if_pos rfl]
  rcases f2_bd rd vp with e | e | e | e <;> rw [e] <;> decide +kernel
theorem or64 (rd : Bool) (vp : Int) (srr : Bool) (hn : Nat) (h : 0 < hn) : bits .or .u8 (f3 rd vp srr) 64 = f4 rd vp srr hn := by
  have hb := f3_bd rd vp srr
  rw [f4, if_pos h, u8_or _ _ (by omega) (by omega) (by omega) (by omega), Nat.or_comm, nat_join 6 _ _ (by decide) (by omega)]
  omega

/-- TP-VP, where there is one. -/
def vpO (vp : Int) : List Int := if 0 < vp then [rvp vp] else []

theorem first_bad (P : Nat → Bool) : ∀ n : Nat, (∀ i, i < n → P i = true) ∨ ∃ q, q < n ∧ (∀ i, i < q → P i = true) ∧ P q = false
  | 0 => .inl (fun i h => absurd h (Nat.not_lt_zero _))
  | n + 1 => by
    rcases first_bad P n with h | ⟨q, h1, h2, h3⟩
    · cases hn : P n with
      | true => exact .inl (fun i hi => by
          rcases Nat.lt_or_ge i n with h' | h'
          · exact h i h'
          · obtain rfl : i = n := by omega
            exact hn)
      | false => exact .inr ⟨n, by omega, h, hn⟩
    · exact .inr ⟨q, by omega, h2, h3⟩

end Go.Proofs.Qxb6613194aFmt.Pl
