import Derived.Test.Qxb6613194aFmtMarsh
namespace Go.Proofs.Qxb6613194aFmt

/-- Two lists of octets that part in one inserted octet, and in the first. -/
structure Ins (L0 L1 : List Int) (p : Nat) (r : Int) : Prop where
  len1 : L1.length = L0.length + 1
  len0 : p < L0.length
  fst0 : bits .and .u8 (L0.getD 0 0) 24 = 0
  fst1 : bits .or .u8 (L0.getD 0 0) 16 = L1.getD 0 0
  mid : ∀ i, 1 ≤ i → i < p → L1.getD i 0 = L0.getD i 0
  at_ : L1.getD p 0 = r
  tail : ∀ i, p ≤ i → i < L0.length → L1.getD (i + 1) 0 = L0.getD i 0

theorem ins_of (F0 F1 r : Int) (A T : List Int) (h0 : bits .and .u8 F0 24 = 0) (h1 : bits .or .u8 F0 16 = F1) (hT : 0 < T.length) :
    Ins (F0 :: (A ++ T)) (F1 :: (A ++ r :: T)) (A.length + 1) r := by
  refine ⟨by simp; omega, by simp; omega, by simpa using h0, by simpa using h1, ?_, by simp, ?_⟩
  · intro i hi hp
    obtain ⟨j, rfl⟩ : ∃ j, i = j + 1 := ⟨i - 1, by omega⟩
    simp only [List.getD_eq_getElem?_getD, List.getElem?_cons_succ]
    rw [List.getElem?_append_left (by omega), List.getElem?_append_left (by omega)]
  · intro i hp hi
    obtain ⟨j, rfl⟩ : ∃ j, i = j + 1 := ⟨i - 1, by omega⟩
    simp only [List.getD_eq_getElem?_getD, List.getElem?_cons_succ]
    rw [List.getElem?_append_right (by omega), List.getElem?_append_right (by omega)]
    rw [show j + 1 - A.length = (j - A.length) + 1 by omega, List.getElem?_cons_succ]

theorem flags_ins (rd srr : Bool) (vp : Int) (hn : Nat) (h : 0 < vp) : bits .and .u8 (Pl.f4 rd 0 srr hn) 24 = 0 ∧ bits .or .u8 (Pl.f4 rd 0 srr hn) 16 = Pl.f4 rd vp srr hn := by
  have e0 : Pl.f2 rd 0 = Pl.f1 rd := by unfold Pl.f2; rw [if_neg (by omega)]
  have e1 : Pl.f2 rd vp = Pl.f1 rd + 16 := by unfold Pl.f2; rw [if_pos h]
  unfold Pl.f4 Pl.f3
  rw [e0, e1]
  by_cases hh : 0 < hn
  · rw [if_pos hh, if_pos hh]
    cases rd <;> cases srr <;> decide +kernel
  · rw [if_neg hh, if_neg hh]
    cases rd <;> cases srr <;> decide +kernel

theorem octets_ins (rd srr : Bool) (mr ton npi : Int) (s : ByteArray) (pid vp al : Int) (hn : Nat) (h zs : List Int) (hv : 0 < vp) :
    Ins (octets rd srr mr ton npi s pid 0 al hn h zs) (octets rd srr mr ton npi s pid vp al hn h zs) (6 + (s.size + 1) / 2) (Pl.rvp vp) := by
  have hf := flags_ins rd srr vp hn hv
  have e0 : Pl.vpO 0 = [] := by unfold Pl.vpO; rw [if_neg (by omega)]
  have e1 : Pl.vpO vp = [Pl.rvp vp] := by unfold Pl.vpO; rw [if_pos hv]
  have ht := Pl.tbRow_length (sb s) s.size ((s.size + 1) / 2)
  have := ins_of (Pl.f4 rd 0 srr hn) (Pl.f4 rd vp srr hn) (Pl.rvp vp) ([mr, (s.size : Int), 128 + 16 * ton + npi] ++ Pl.tbRow (sb s) s.size ((s.size + 1) / 2) ++ [pid, al * 4 % 256])
    ([(Pl.udLen al h zs : Int) % 256] ++ Pl.udData al h zs) hf.1 hf.2 (by simp)
  have el : ([mr, (s.size : Int), 128 + 16 * ton + npi] ++ Pl.tbRow (sb s) s.size ((s.size + 1) / 2) ++ [pid, al * 4 % 256]).length + 1 = 6 + (s.size + 1) / 2 := by
    simp [ht]; omega
  rw [el] at this
  have o0 : octets rd srr mr ton npi s pid 0 al hn h zs = Pl.f4 rd 0 srr hn :: (([mr, (s.size : Int), 128 + 16 * ton + npi] ++ Pl.tbRow (sb s) s.size ((s.size + 1) / 2) ++ [pid, al * 4 % 256]) ++ ([(Pl.udLen al h zs : Int) % 256] ++ Pl.udData al h zs)) := by
    simp [octets, e0]
  have o1 : octets rd srr mr ton npi s pid vp al hn h zs = Pl.f4 rd vp srr hn :: (([mr, (s.size : Int), 128 + 16 * ton + npi] ++ Pl.tbRow (sb s) s.size ((s.size + 1) / 2) ++ [pid, al * 4 % 256]) ++ Pl.rvp vp :: ([(Pl.udLen al h zs : Int) % 256] ++ Pl.udData al h zs)) := by
    simp [octets, e1]
  rw [o0, o1]
  exact this

theorem octets_len (rd srr : Bool) (mr ton npi : Int) (s : ByteArray) (pid vp al : Int) (hn : Nat) (h zs : List Int) :
    (octets rd srr mr ton npi s pid vp al hn h zs).length = 6 + (s.size + 1) / 2 + (Pl.vpO vp).length + 1 + (Pl.udData al h zs).length := by
  have ht := Pl.tbRow_length (sb s) s.size ((s.size + 1) / 2)
  simp only [octets, List.length_append, List.length_cons, List.length_nil, ht]
  omega

end Go.Proofs.Qxb6613194aFmt
