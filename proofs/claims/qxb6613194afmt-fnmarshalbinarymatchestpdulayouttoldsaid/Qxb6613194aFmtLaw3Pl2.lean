import Derived.Test.Qxb6613194aFmtLaw4Pl
namespace Go.Proofs.Qxb6613194aFmt

theorem g_r (A B : List Int) (i j : Nat) (h : i = A.length + j) : (A ++ B).getD i 0 = B.getD j 0 := by
  subst h
  rw [List.getD_eq_getElem?_getD, List.getElem?_append_right (by omega), Nat.add_sub_cancel_left, List.getD_eq_getElem?_getD]
theorem g_l (A B : List Int) (i : Nat) (h : i < A.length) : (A ++ B).getD i 0 = A.getD i 0 := by
  rw [List.getD_eq_getElem?_getD, List.getElem?_append_left h, List.getD_eq_getElem?_getD]

/-- The octets, place by place. -/
structure OctAt (L : List Int) (rd srr : Bool) (mr ton npi : Int) (s : ByteArray) (pid vp al : Int) (hn m V : Nat) (ul : Int) (D : List Int) : Prop where
  a0 : L.getD 0 0 = Pl.f4 rd vp srr hn
  a1 : L.getD 1 0 = mr
  a2 : L.getD 2 0 = (s.size : Int)
  a3 : L.getD 3 0 = 128 + 16 * ton + npi
  tb : ∀ j, j < m → L.getD (4 + j) 0 = Pl.tbAt (sb s) s.size j
  pid_ : L.getD (4 + m) 0 = pid
  dcs : L.getD (4 + m + 1) 0 = al * 4 % 256
  vp_ : 0 < vp → L.getD (4 + m + 2) 0 = Pl.rvp vp
  ul_ : L.getD (6 + m + V) 0 = ul
  dat : ∀ j, j < D.length → L.getD (6 + m + V + 1 + j) 0 = D.getD j 0
  len : L.length = 6 + m + V + 1 + D.length

theorem oct_at (rd srr : Bool) (mr ton npi : Int) (s : ByteArray) (pid vp al : Int) (hn : Nat) (h zs : List Int) :
    OctAt (octets rd srr mr ton npi s pid vp al hn h zs) rd srr mr ton npi s pid vp al hn ((s.size + 1) / 2) (Pl.vpO vp).length ((Pl.udLen al h zs : Int) % 256) (Pl.udData al h zs) := by
  have hl := octets_len rd srr mr ton npi s pid vp al hn h zs
  have ht := Pl.tbRow_length (sb s) s.size ((s.size + 1) / 2)
  have hg := fun j hj => Pl.tbRow_getD (sb s) s.size ((s.size + 1) / 2) j hj
  have hv : 0 < vp → Pl.vpO vp = [Pl.rvp vp] := fun h => by unfold Pl.vpO; rw [if_pos h]
  have e : octets rd srr mr ton npi s pid vp al hn h zs = [Pl.f4 rd vp srr hn, mr, (s.size : Int), 128 + 16 * ton + npi] ++ (Pl.tbRow (sb s) s.size ((s.size + 1) / 2) ++ ([pid, al * 4 % 256] ++ (Pl.vpO vp ++ ([(Pl.udLen al h zs : Int) % 256] ++ Pl.udData al h zs)))) := by
    simp [octets]
  rw [e] at hl ⊢
  generalize Pl.tbRow (sb s) s.size ((s.size + 1) / 2) = tb at *
  generalize (s.size + 1) / 2 = m at *
  generalize Pl.udData al h zs = D at *
  generalize (Pl.udLen al h zs : Int) % 256 = ul at *
  refine ⟨rfl, rfl, rfl, rfl, fun j hj => ?_, ?_, ?_, fun hp => ?_, ?_, fun j hj => ?_, hl⟩
  · rw [g_r _ _ _ j (by simp), g_l _ _ _ (by omega), hg j hj]
  · rw [g_r _ _ _ m (by simp), g_r _ _ _ 0 (by omega)]; rfl
  · rw [g_r _ _ _ (m + 1) (by simp; omega), g_r _ _ _ 1 (by omega)]; rfl
  · rw [g_r _ _ _ (m + 2) (by simp; omega), g_r _ _ _ 2 (by omega), g_r _ _ _ 0 (by simp), hv hp]; rfl
  · rw [g_r _ _ _ (m + 2 + (Pl.vpO vp).length) (by simp; omega), g_r _ _ _ (2 + (Pl.vpO vp).length) (by omega), g_r _ _ _ ((Pl.vpO vp).length) (by simp), g_r _ _ _ 0 (by omega)]; rfl
  · rw [g_r _ _ _ (m + 2 + (Pl.vpO vp).length + 1 + j) (by simp; omega), g_r _ _ _ (2 + (Pl.vpO vp).length + 1 + j) (by omega), g_r _ _ _ ((Pl.vpO vp).length + 1 + j) (by simp; omega), g_r _ _ _ (1 + j) (by omega), g_r _ _ _ j (by simp)]

/-- The first octet's bits. -/
theorem flags_at (rd srr : Bool) (vp : Int) (hn : Nat) : bits .and .u8 (Pl.f4 rd vp srr hn) 3 = 1 ∧ (bits .and .u8 (Pl.f4 rd vp srr hn) 4 != 0) = rd ∧ bits .and .u8 (Pl.f4 rd vp srr hn / 8) 3 = (if 0 < vp then 2 else 0) ∧
    (bits .and .u8 (Pl.f4 rd vp srr hn) 32 != 0) = srr ∧ (bits .and .u8 (Pl.f4 rd vp srr hn) 64 != 0) = decide (0 < hn) ∧ bits .and .u8 (Pl.f4 rd vp srr hn) 128 = 0 := by
  unfold Pl.f4 Pl.f3 Pl.f2
  by_cases hh : 0 < hn <;> by_cases hv : 0 < vp <;> simp only [hh, hv, if_true, if_false, decide_true, decide_false] <;> cases rd <;> cases srr <;> decide +kernel

theorem type_at (t n : Int) (h0 : 0 ≤ t) (h1 : t ≤ 7) (g0 : 0 ≤ n) (g1 : n ≤ 15) : bits .and .u8 (128 + 16 * t + n) 128 = 128 ∧ bits .and .u8 ((128 + 16 * t + n) / 16) 7 = t ∧ bits .and .u8 (128 + 16 * t + n) 15 = n := by
  refine ⟨?_, ?_, ?_⟩
  · rw [u8_and _ _ (by omega) (by omega) (by omega) (by omega), show (128 : Int).toNat = 2 ^ 7 from rfl, nat_bit]
    omega
  · rw [u8_and _ _ (by omega) (by omega) (by omega) (by omega), show (7 : Int).toNat = 7 from rfl, nat_mask3]
    omega
  · rw [u8_and _ _ (by omega) (by omega) (by omega) (by omega), show (15 : Int).toNat = 15 from rfl, nat_mask4]
    omega

theorem and_15 (x : Int) (h0 : 0 ≤ x) (h1 : x ≤ 255) : bits .and .u8 x 15 = x % 16 := by
  rw [u8_and _ _ (by omega) (by omega) (by omega) (by omega), show (15 : Int).toNat = 15 from rfl, nat_mask4]
  omega

theorem tb_even (g : Nat → Int) (n k : Nat) (h : k < n) (he : k % 2 = 0) : Pl.tbAt g n (k / 2) % 16 = Pl.digV (g k) := by
  have e : 2 * (k / 2) = k := by omega
  have h1 := Pl.digV_bd (g k)
  have h2 := Pl.digV_bd (g (k + 1))
  unfold Pl.tbAt
  rw [e]
  by_cases a : k + 1 < n
  · rw [if_pos a]; omega
  · rw [if_neg a, if_pos h]; omega

theorem tb_odd (g : Nat → Int) (n k : Nat) (h : k < n) (he : ¬ k % 2 = 0) : Pl.tbAt g n (k / 2) / 16 = Pl.digV (g k) := by
  have e : 2 * (k / 2) + 1 = k := by omega
  have h1 := Pl.digV_bd (g (2 * (k / 2)))
  have h2 := Pl.digV_bd (g k)
  unfold Pl.tbAt
  rw [e, if_pos h]
  omega

theorem tb_end (g : Nat → Int) (n : Nat) (he : n % 2 = 1) : Pl.tbAt g n (n / 2) / 16 = 15 := by
  have h1 := Pl.digV_bd (g (2 * (n / 2)))
  unfold Pl.tbAt
  rw [if_neg (by omega), if_pos (by omega)]
  omega

end Go.Proofs.Qxb6613194aFmt
