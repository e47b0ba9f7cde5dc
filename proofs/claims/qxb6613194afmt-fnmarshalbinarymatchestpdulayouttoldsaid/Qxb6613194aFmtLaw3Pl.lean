import Derived.Test.Qxb6613194aFmtMarsh
namespace Go.Proofs.Qxb6613194aFmt

/-! ### The packed septets, bit by bit -/
theorem two_mul_mod (a b e : Nat) (h : 0 < e) : (a + b * 2 ^ e) % 2 = a % 2 := by
  obtain ⟨k, rfl⟩ : ∃ k, e = k + 1 := ⟨e - 1, by omega⟩
  rw [Nat.pow_succ, ← Nat.mul_assoc, Nat.add_mul_mod_self_right]

theorem packN_bit (f : Nat) (g : Nat → Nat) : ∀ (n c : Nat), Pl.packN f g n / 2 ^ c % 2 = if c < f then 0 else if (c - f) / 7 < n then g ((c - f) / 7) / 2 ^ ((c - f) % 7) % 2 else 0
  | 0, c => by
    simp [Pl.packN]
  | n + 1, c => by
    have ih := packN_bit f g n c
    have hlt := Pl.packN_lt f g n
    simp only [Pl.packN]
    by_cases hc : c < f + 7 * n
    · have e1 : (Pl.packN f g n + g n % 128 * 2 ^ (f + 7 * n)) / 2 ^ c % 2 = Pl.packN f g n / 2 ^ c % 2 := by
        have e2 : g n % 128 * 2 ^ (f + 7 * n) = (g n % 128 * 2 ^ (f + 7 * n - c)) * 2 ^ c := by
          rw [Nat.mul_assoc, ← Nat.pow_add]
          congr 2
          omega
        rw [e2, Nat.add_mul_div_right _ _ (Nat.two_pow_pos _)]
        exact two_mul_mod _ _ _ (by omega)
      rw [e1, ih]
      by_cases h1 : c < f
      · rw [if_pos h1, if_pos h1]
      · rw [if_neg h1, if_neg h1, if_pos (by omega), if_pos (by omega)]
    · have e1 : (Pl.packN f g n + g n % 128 * 2 ^ (f + 7 * n)) / 2 ^ c = g n % 128 / 2 ^ (c - (f + 7 * n)) := by
        have e2 : 2 ^ c = 2 ^ (f + 7 * n) * 2 ^ (c - (f + 7 * n)) := by
          rw [← Nat.pow_add]
          congr 1
          omega
        rw [e2, ← Nat.div_div_eq_div_mul, Nat.add_mul_div_right _ _ (Nat.two_pow_pos _), Nat.div_eq_of_lt hlt, Nat.zero_add]
      rw [e1, if_neg (by omega)]
      by_cases h7 : (c - f) / 7 < n + 1
      · have ek : (c - f) / 7 = n := by omega
        rw [if_pos h7, ek]
        have er : c - (f + 7 * n) = (c - f) % 7 := by omega
        rw [er]
        have hr : (c - f) % 7 < 7 := Nat.mod_lt _ (by decide)
        generalize (c - f) % 7 = r at hr
        generalize g n = z
        rcases (show r = 0 ∨ r = 1 ∨ r = 2 ∨ r = 3 ∨ r = 4 ∨ r = 5 ∨ r = 6 by omega) with rfl | rfl | rfl | rfl | rfl | rfl | rfl <;> omega
      · rw [if_neg h7]
        have h128 : 2 ^ 7 ≤ 2 ^ (c - (f + 7 * n)) := Nat.pow_le_pow_right (by decide) (by omega)
        rw [Nat.div_eq_of_lt (by have : g n % 128 < 128 := Nat.mod_lt _ (by decide); omega)]

theorem packAt_bit (N j r : Nat) (h : r < 8) : Pl.packAt N j / 2 ^ r % 2 = N / 2 ^ (8 * j + r) % 2 := by
  unfold Pl.packAt
  rw [Nat.pow_add, ← Nat.div_div_eq_div_mul]
  generalize N / 2 ^ (8 * j) = a
  rcases (show r = 0 ∨ r = 1 ∨ r = 2 ∨ r = 3 ∨ r = 4 ∨ r = 5 ∨ r = 6 ∨ r = 7 by omega) with rfl | rfl | rfl | rfl | rfl | rfl | rfl | rfl <;> omega

/-! ### The header, element by element -/
theorem hdrTo_split (id : Nat → Int) (dat : Nat → List Int) (i : Nat) : ∀ n, i < n → ∃ T, Pl.hdrTo id dat n = Pl.hdrTo id dat i ++ [id i, ((dat i).length : Int) % 256] ++ dat i ++ T
  | 0, h => absurd h (Nat.not_lt_zero _)
  | n + 1, h => by
    by_cases e : i = n
    · subst e
      exact ⟨[], by simp [Pl.hdrTo]⟩
    · obtain ⟨T, hT⟩ := hdrTo_split id dat i n (by omega)
      exact ⟨T ++ [id n, ((dat n).length : Int) % 256] ++ dat n, by simp [Pl.hdrTo, hT]⟩

/-- The octets of a header behind its length's octet. -/
theorem hdr_at (id : Nat → Int) (dat : Nat → List Int) (n i : Nat) (h : i < n) (X : List Int) :
    (Pl.hdr id dat n ++ X).getD (1 + (Pl.hdrTo id dat i).length) 0 = id i ∧ (Pl.hdr id dat n ++ X).getD (1 + (Pl.hdrTo id dat i).length + 1) 0 = ((dat i).length : Int) % 256 ∧
    ∀ j, j < (dat i).length → (Pl.hdr id dat n ++ X).getD (1 + (Pl.hdrTo id dat i).length + 2 + j) 0 = (dat i).getD j 0 := by
  obtain ⟨T, hT⟩ := hdrTo_split id dat i n h
  have e : Pl.hdr id dat n ++ X = (((Pl.hdrTo id dat n).length : Int) % 256) :: (Pl.hdrTo id dat n ++ X) := by
    unfold Pl.hdr
    rw [if_neg (by omega)]
    simp
  rw [e]
  generalize (((Pl.hdrTo id dat n).length : Int) % 256) = a
  have e2 : Pl.hdrTo id dat n ++ X = Pl.hdrTo id dat i ++ (id i :: ((dat i).length : Int) % 256 :: (dat i ++ (T ++ X))) := by
    rw [hT]; simp
  rw [e2]
  generalize Pl.hdrTo id dat i = H
  refine ⟨?_, ?_, fun j hj => ?_⟩
  · rw [show 1 + H.length = H.length + 1 by omega, List.getD_eq_getElem?_getD, List.getElem?_cons_succ, List.getElem?_append_right (Nat.le_refl _)]
    simp
  · rw [show 1 + H.length + 1 = (H.length + 1) + 1 by omega, List.getD_eq_getElem?_getD, List.getElem?_cons_succ, List.getElem?_append_right (by omega)]
    simp
  · rw [show 1 + H.length + 2 + j = (H.length + 2 + j) + 1 by omega, List.getD_eq_getElem?_getD, List.getElem?_cons_succ, List.getElem?_append_right (by omega),
      show H.length + 2 + j - H.length = (j + 1) + 1 by omega, List.getElem?_cons_succ, List.getElem?_cons_succ, List.getElem?_append_left hj, List.getD_eq_getElem?_getD]

theorem hdr_first (id : Nat → Int) (dat : Nat → List Int) (n : Nat) (h : 0 < n) (X : List Int) : (Pl.hdr id dat n ++ X).getD 0 0 = ((Pl.hdrTo id dat n).length : Int) % 256 := by
  unfold Pl.hdr
  rw [if_neg (by omega)]
  simp

/-- The septet's octets behind the header. -/
theorem packed_at (h : List Int) (zs : List Int) (q : Nat) (h1 : h.length ≤ q) (h2 : q < (Pl.udData 0 h zs).length) :
    (Pl.udData 0 h zs).getD q 0 = ((Pl.packAt (Pl.packN (Pl.fillOf h.length) (fun t => (zs.getD t 0).toNat) zs.length) (q - h.length) : Nat) : Int) := by
  have e : Pl.udData 0 h zs = h ++ Pl.packed h.length (fun t => (zs.getD t 0).toNat) zs.length := by unfold Pl.udData; rw [if_pos rfl]
  rw [e] at h2 ⊢
  rw [List.getD_eq_getElem?_getD, List.getElem?_append_right h1, ← List.getD_eq_getElem?_getD]
  unfold Pl.packed
  rw [List.length_append, Pl.packed_len] at h2
  exact Pl.packRow_getD _ _ _ (by omega)

end Go.Proofs.Qxb6613194aFmt
