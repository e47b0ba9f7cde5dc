namespace Go.Proofs.Qxb6613194aFmt.Pl

/-- The TP-VP of a positive period (nanoseconds). -/
def rvp (d : Int) : Int :=
  if d ≤ 43200000000000 then (d + 300000000000 - 1) / 300000000000 - 1
  else if d ≤ 86400000000000 then 143 + (d - 43200000000000 + 1800000000000 - 1) / 1800000000000
  else if d ≤ 2592000000000000 then 166 + (d + 86400000000000 - 1) / 86400000000000
  else if d ≤ 38102400000000000 then 192 + (d + 604800000000000 - 1) / 604800000000000
  else 255

/-- The period of a TP-VP. -/
def vpP (v : Int) : Int :=
  if v ≤ 143 then (v + 1) * 5 * 60000000000
  else if v ≤ 167 then 43200000000000 + (v - 143) * 30 * 60000000000
  else if v ≤ 196 then (v - 166) * 1440 * 60000000000
  else (v - 192) * 10080 * 60000000000

theorem rvp_bd (d : Int) (h : 0 < d) : 0 ≤ rvp d ∧ rvp d ≤ 255 := by
  unfold rvp
  repeat' split
  all_goals omega

theorem rvp_big (d : Int) (h : 38102400000000000 < d) : rvp d = 255 := by
  unfold rvp
  repeat' split
  all_goals omega

theorem vpP_rvp (d : Int) (h : 0 < d) (h2 : d ≤ 38102400000000000) : d ≤ vpP (rvp d) := by
  unfold rvp
  repeat' split
  all_goals (unfold vpP; repeat' split)
  all_goals omega

theorem vpP_rvp_pred (d : Int) (h : 0 < d) (h2 : d ≤ 38102400000000000) (h3 : rvp d ≠ 0) : vpP (rvp d - 1) < d := by
  revert h3
  unfold rvp
  repeat' split
  all_goals (unfold vpP; repeat' split)
  all_goals omega


/-- Is a byte a TBCD digit? -/
def isDig (c : Int) : Bool := (48 ≤ c && c ≤ 57) || c == 42 || c == 35 || (97 ≤ c && c ≤ 99)

/-- The semi-octet of a digit. -/
def digV (c : Int) : Int :=
  if 48 ≤ c ∧ c ≤ 57 then c - 48 else if c = 42 then 10 else if c = 35 then 11 else if 97 ≤ c ∧ c ≤ 99 then 12 + c - 97 else 0

theorem isDig_iff (c : Int) : isDig c = true ↔ ((48 ≤ c ∧ c ≤ 57) ∨ c = 42 ∨ c = 35 ∨ (97 ≤ c ∧ c ≤ 99)) := by
  simp [isDig, or_assoc]

theorem digV_bd (c : Int) : 0 ≤ digV c ∧ digV c ≤ 14 := by
  unfold digV
  repeat' split
  all_goals omega


/-- The j-th octet of a packed number behind k of its digits. -/
def tbAt (g : Nat → Int) (k j : Nat) : Int :=
  if 2 * j + 1 < k then digV (g (2 * j)) + 16 * digV (g (2 * j + 1)) else if 2 * j < k then 240 + digV (g (2 * j)) else 0

def tbRow (g : Nat → Int) (k m : Nat) : List Int := (List.range m).map (tbAt g k)

theorem tbRow_length (g : Nat → Int) (k m : Nat) : (tbRow g k m).length = m := by simp [tbRow]

theorem tbRow_getD (g : Nat → Int) (k m j : Nat) (h : j < m) : (tbRow g k m).getD j 0 = tbAt g k j := by
  simp [tbRow, h]

theorem tbRow_zero (g : Nat → Int) (m : Nat) : tbRow g 0 m = List.replicate m 0 := by
  apply List.ext_getElem
  · simp [tbRow]
  · intro j h1 h2
    simp [tbRow, tbAt]

/-- One digit more. -/
theorem tbRow_step (g : Nat → Int) (k m : Nat) (v : Int) (hv : v = tbAt g (k + 1) (k / 2)) : (tbRow g k m).set (k / 2) v = tbRow g (k + 1) m := by
  apply List.ext_getElem
  · simp [tbRow]
  · intro j h1 h2
    have hj : j < m := by simpa [tbRow] using h2
    rw [List.getElem_set]
    split
    · rename_i he
      subst he
      rw [hv]; simp [tbRow]
    · rename_i he
      simp only [tbRow, List.getElem_map, List.getElem_range]
      unfold tbAt
      repeat' split
      all_goals first | rfl | omega

theorem tbAt_even (g : Nat → Int) (k : Nat) (h : k % 2 = 0) : tbAt g (k + 1) (k / 2) = 240 + digV (g k) := by
  have e : 2 * (k / 2) = k := by omega
  unfold tbAt
  rw [if_neg (by omega), if_pos (by omega), e]

theorem tbAt_odd (g : Nat → Int) (k : Nat) (h : k % 2 = 1) : tbAt g (k + 1) (k / 2) = digV (g (k - 1)) + 16 * digV (g k) := by
  have e : 2 * (k / 2) = k - 1 := by omega
  unfold tbAt
  rw [if_pos (by omega), e, show k - 1 + 1 = k by omega]

theorem tbAt_odd_old (g : Nat → Int) (k : Nat) (h : k % 2 = 1) : tbAt g k (k / 2) = 240 + digV (g (k - 1)) := by
  have e : 2 * (k / 2) = k - 1 := by omega
  unfold tbAt
  rw [if_neg (by omega), if_pos (by omega), e]

theorem tbAt_bd (g : Nat → Int) (k j : Nat) : 0 ≤ tbAt g k j ∧ tbAt g k j ≤ 255 := by
  have h1 := digV_bd (g (2 * j))
  have h2 := digV_bd (g (2 * j + 1))
  unfold tbAt
  repeat' split
  all_goals omega

end Go.Proofs.Qxb6613194aFmt.Pl
