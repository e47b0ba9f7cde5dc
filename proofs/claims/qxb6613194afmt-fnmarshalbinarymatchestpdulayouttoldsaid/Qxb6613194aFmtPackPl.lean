import Derived.WalkKit
namespace Go.Proofs.Qxb6613194aFmt.Pl

/-- The septets laid one behind the other from bit f on, as one number. -/
def packN (f : Nat) (g : Nat → Nat) : Nat → Nat
  | 0 => 0
  | k + 1 => packN f g k + g k % 128 * 2 ^ (f + 7 * k)

def packAt (N j : Nat) : Nat := N / 2 ^ (8 * j) % 256
def packRow (N m : Nat) : List Int := (List.range m).map fun j => (packAt N j : Int)

theorem packRow_length (N m : Nat) : (packRow N m).length = m := by simp [packRow]
theorem packRow_getD (N m j : Nat) (h : j < m) : (packRow N m).getD j 0 = (packAt N j : Int) := by simp [packRow, h]
theorem packRow_zero (m : Nat) : packRow 0 m = List.replicate m 0 := by
  apply List.ext_getElem
  · simp [packRow]
  · intro j h1 h2
    simp [packRow, packAt]

theorem packN_lt (f : Nat) (g : Nat → Nat) : ∀ k, packN f g k < 2 ^ (f + 7 * k)
  | 0 => by simp [packN]; exact Nat.two_pow_pos _
  | k + 1 => by
    have h := packN_lt f g k
    have e : 2 ^ (f + 7 * (k + 1)) = 2 ^ (f + 7 * k) * 128 := by
      rw [show f + 7 * (k + 1) = f + 7 * k + 7 by omega, Nat.pow_add]
    have hs : g k % 128 * 2 ^ (f + 7 * k) ≤ 127 * 2 ^ (f + 7 * k) := Nat.mul_le_mul_right _ (by omega)
    simp only [packN]
    omega

theorem packAt_low (N s q r j : Nat) (h : j < q) : packAt (N + s * 2 ^ (8 * q + r)) j = packAt N j := by
  unfold packAt
  have e : s * 2 ^ (8 * q + r) = (s * 2 ^ (8 * (q - j - 1) + r) * 256) * 2 ^ (8 * j) := by
    have e1 : 2 ^ (8 * q + r) = 2 ^ (8 * (q - j - 1) + r) * 256 * 2 ^ (8 * j) := by
      rw [show (256 : Nat) = 2 ^ 8 from rfl, ← Nat.pow_add, ← Nat.pow_add]
      congr 1
      omega
    rw [e1]
    simp only [Nat.mul_assoc]
  rw [e, Nat.add_mul_div_right _ _ (Nat.two_pow_pos _), Nat.add_mul_mod_self_right]

theorem div_here (N s q r : Nat) : (N + s * 2 ^ (8 * q + r)) / 2 ^ (8 * q) = N / 2 ^ (8 * q) + s * 2 ^ r := by
  rw [Nat.pow_add, Nat.mul_comm (2 ^ (8 * q)), ← Nat.mul_assoc, Nat.add_mul_div_right _ _ (Nat.two_pow_pos _)]

theorem div_lt (N q r : Nat) (h : N < 2 ^ (8 * q + r)) : N / 2 ^ (8 * q) < 2 ^ r := by
  rw [Nat.div_lt_iff_lt_mul (Nat.two_pow_pos _), ← Nat.pow_add, Nat.add_comm r]
  exact h

theorem div_next (N q : Nat) : N / 2 ^ (8 * (q + 1)) = N / 2 ^ (8 * q) / 256 := by
  rw [show 8 * (q + 1) = 8 * q + 8 by omega, Nat.pow_add, ← Nat.div_div_eq_div_mul]

theorem packAt_here (N s q r : Nat) (hr : r < 8) (h : N < 2 ^ (8 * q + r)) : packAt (N + s * 2 ^ (8 * q + r)) q = packAt N q ||| (s * 2 ^ r % 256) := by
  have ha := div_lt N q r h
  unfold packAt
  rw [div_here]
  generalize N / 2 ^ (8 * q) = a at *
  have hcases : r = 0 ∨ r = 1 ∨ r = 2 ∨ r = 3 ∨ r = 4 ∨ r = 5 ∨ r = 6 ∨ r = 7 := by omega
  have hm : a % 256 = a := by
    apply Nat.mod_eq_of_lt
    rcases hcases with rfl | rfl | rfl | rfl | rfl | rfl | rfl | rfl <;> omega
  rw [hm, Nat.or_comm, nat_join r _ _ (by rcases hcases with rfl | rfl | rfl | rfl | rfl | rfl | rfl | rfl <;> omega) ha]
  rcases hcases with rfl | rfl | rfl | rfl | rfl | rfl | rfl | rfl <;> omega

theorem packAt_next (N s q r : Nat) (hs : s < 128) (hr1 : 1 < r) (hr : r < 8) (h : N < 2 ^ (8 * q + r)) : packAt (N + s * 2 ^ (8 * q + r)) (q + 1) = packAt N (q + 1) ||| (s / 2 ^ (8 - r)) := by
  have ha := div_lt N q r h
  unfold packAt
  rw [div_next, div_next, div_here]
  generalize N / 2 ^ (8 * q) = a at *
  have hcases : r = 2 ∨ r = 3 ∨ r = 4 ∨ r = 5 ∨ r = 6 ∨ r = 7 := by omega
  have hm : a / 256 % 256 = 0 := by
    rcases hcases with rfl | rfl | rfl | rfl | rfl | rfl <;> omega
  rw [hm, Nat.zero_or]
  rcases hcases with rfl | rfl | rfl | rfl | rfl | rfl <;> omega

theorem packAt_next0 (N s q r : Nat) (hs : s < 128) (hr1 : r ≤ 1) (h : N < 2 ^ (8 * q + r)) : packAt (N + s * 2 ^ (8 * q + r)) (q + 1) = packAt N (q + 1) := by
  have ha := div_lt N q r h
  unfold packAt
  rw [div_next, div_next, div_here]
  generalize N / 2 ^ (8 * q) = a at *
  have hcases : r = 0 ∨ r = 1 := by omega
  rcases hcases with rfl | rfl <;> omega

theorem packAt_high (N s q r j : Nat) (hs : s < 128) (hr : r < 8) (hj : q + 1 < j) (h : N < 2 ^ (8 * q + r)) : packAt (N + s * 2 ^ (8 * q + r)) j = packAt N j := by
  have e : 2 ^ (8 * q + r + 7) = 2 ^ (8 * q + r) * 128 := Nat.pow_add _ _ _
  have hle : 2 ^ (8 * q + r + 7) ≤ 2 ^ (8 * j) := Nat.pow_le_pow_right (by decide) (by omega)
  have hs2 : s * 2 ^ (8 * q + r) ≤ 127 * 2 ^ (8 * q + r) := Nat.mul_le_mul_right _ (by omega)
  unfold packAt
  rw [Nat.div_eq_of_lt (by omega), Nat.div_eq_of_lt (by omega)]

/-- One septet more, over two octets. -/
theorem packRow_step2 (N s q r m : Nat) (hs : s < 128) (hr1 : 1 < r) (hr : r < 8) (h : N < 2 ^ (8 * q + r)) :
    ((packRow N m).set q ((packAt N q ||| (s * 2 ^ r % 256) : Nat) : Int)).set (q + 1) ((packAt N (q + 1) ||| (s / 2 ^ (8 - r)) : Nat) : Int) = packRow (N + s * 2 ^ (8 * q + r)) m := by
  apply List.ext_getElem
  · simp [packRow]
  · intro j h1 h2
    rw [List.getElem_set, List.getElem_set]
    simp only [packRow, List.getElem_map, List.getElem_range]
    split
    · rename_i e; subst e; rw [packAt_next N s q r hs hr1 hr h]
    · split
      · rename_i e; subst e; rw [packAt_here N s q r hr h]
      · rename_i n1 n2
        by_cases hj : j < q
        · rw [packAt_low _ _ _ _ _ hj]
        · rw [packAt_high _ _ _ _ _ hs hr (by omega) h]

/-- .. within one. -/
theorem packRow_step1 (N s q r m : Nat) (hs : s < 128) (hr1 : r ≤ 1) (h : N < 2 ^ (8 * q + r)) :
    (packRow N m).set q ((packAt N q ||| (s * 2 ^ r % 256) : Nat) : Int) = packRow (N + s * 2 ^ (8 * q + r)) m := by
  apply List.ext_getElem
  · simp [packRow]
  · intro j h1 h2
    rw [List.getElem_set]
    simp only [packRow, List.getElem_map, List.getElem_range]
    split
    · rename_i e; subst e; rw [packAt_here N s q r (by omega) h]
    · rename_i n1
      by_cases hj : j < q
      · rw [packAt_low _ _ _ _ _ hj]
      · by_cases hj1 : j = q + 1
        · subst hj1; rw [packAt_next0 _ _ _ _ hs hr1 h]
        · rw [packAt_high _ _ _ _ _ hs (by omega) (by omega) h]

theorem packAt_lt (N j : Nat) : packAt N j < 256 := Nat.mod_lt _ (by decide)

/-- The walk's own words for the two stores. -/
theorem or_shl (N q r : Nat) (z : Int) (h0 : 0 ≤ z) : bits .or .u8 (packAt N q : Int) (z % 128 * 2 ^ r % 256) = ((packAt N q ||| (z.toNat % 128 * 2 ^ r % 256) : Nat) : Int) := by
  have e : z % 128 * 2 ^ r % 256 = ((z.toNat % 128 * 2 ^ r % 256 : Nat) : Int) := by
    obtain ⟨n, rfl⟩ := Int.eq_ofNat_of_zero_le h0
    simp
  rw [e]
  exact u8_or_nat _ _ (packAt_lt _ _) (Nat.mod_lt _ (by decide))

theorem or_shr (N q r : Nat) (z : Int) (h0 : 0 ≤ z) : bits .or .u8 (packAt N q : Int) (z % 128 / 2 ^ r) = ((packAt N q ||| (z.toNat % 128 / 2 ^ r) : Nat) : Int) := by
  have e : z % 128 / 2 ^ r = ((z.toNat % 128 / 2 ^ r : Nat) : Int) := by
    obtain ⟨n, rfl⟩ := Int.eq_ofNat_of_zero_le h0
    simp
  rw [e]
  refine u8_or_nat _ _ (packAt_lt _ _) (Nat.lt_of_le_of_lt (Nat.div_le_self _ _) (by omega))

end Go.Proofs.Qxb6613194aFmt.Pl
