import Derived.Test.Qxb6613194aFmtUdm2
namespace Go.Proofs.Qxb6613194aFmt

theorem mem_of_getD (l : List Int) (h : ∀ j, 0 ≤ l.getD j 0 ∧ l.getD j 0 ≤ 255) : ∀ x ∈ l, 0 ≤ x ∧ x ≤ 255 := by
  intro x hx
  obtain ⟨j, hj, rfl⟩ := List.getElem_of_mem hx
  have := h j
  rwa [List.getD_eq_getElem?_getD, List.getElem?_eq_getElem hj] at this

theorem getD_of_mem (l : List Int) (h : ∀ x ∈ l, 0 ≤ x ∧ x ≤ 255) : ∀ j, 0 ≤ l.getD j 0 ∧ l.getD j 0 ≤ 255 := by
  intro j
  rw [List.getD_eq_getElem?_getD]
  rcases Nat.lt_or_ge j l.length with hj | hj
  · rw [List.getElem?_eq_getElem hj]
    exact h _ (List.getElem_mem hj)
  · rw [List.getElem?_eq_none hj]
    simp

theorem hdrTo_bytes (id : Nat → Int) (dat : Nat → List Int) : ∀ n, (∀ i, i < n → 0 ≤ id i ∧ id i ≤ 255) → (∀ i, i < n → ∀ x ∈ dat i, 0 ≤ x ∧ x ≤ 255) → ∀ x ∈ Pl.hdrTo id dat n, 0 ≤ x ∧ x ≤ 255
  | 0, _, _ => fun x hx => by cases hx
  | n + 1, h1, h2 => fun x hx => by
    simp only [Pl.hdrTo, List.mem_append, List.mem_cons, List.not_mem_nil, or_false] at hx
    rcases hx with (hx | hx | hx) | hx
    · exact hdrTo_bytes id dat n (fun i hi => h1 i (by omega)) (fun i hi => h2 i (by omega)) x hx
    · subst hx; exact h1 n (by omega)
    · subst hx; omega
    · exact h2 n (by omega) x hx

theorem ud_bytes (al : Int) (es : Nat → El) (hn : Nat) (zs : List Int) {w : World} {B : Nat} {ho : Option Addr} {hb hoff : Nat} (hd : Hd w B ho hb hoff hn es) (hz : ∀ j, 0 ≤ zs.getD j 0 ∧ zs.getD j 0 ≤ 255) :
    ∀ j, 0 ≤ (Pl.udData al (Pl.hdr (ids es) (dats es) hn) zs).getD j 0 ∧ (Pl.udData al (Pl.hdr (ids es) (dats es) hn) zs).getD j 0 ≤ 255 := by
  apply getD_of_mem
  have hh : ∀ x ∈ Pl.hdr (ids es) (dats es) hn, 0 ≤ x ∧ x ≤ 255 := by
    intro x hx
    unfold Pl.hdr at hx
    by_cases e : hn = 0
    · rw [if_pos e] at hx; cases hx
    · rw [if_neg e] at hx
      rcases List.mem_cons.1 hx with rfl | hx
      · omega
      · exact hdrTo_bytes (ids es) (dats es) hn (fun i hi => hd.bd i hi) (fun i hi => mem_of_getD _ (hd.rd i hi).bd) x hx
  intro x hx
  unfold Pl.udData at hx
  by_cases e : al = 0
  · rw [if_pos e] at hx
    rcases List.mem_append.1 hx with hx | hx
    · exact hh x hx
    · unfold Pl.packed Pl.packRow at hx
      obtain ⟨j, _, rfl⟩ := List.mem_map.1 hx
      have := Pl.packAt_lt (Pl.packN (Pl.fillOf (Pl.hdr (ids es) (dats es) hn).length) (fun t => (zs.getD t 0).toNat) zs.length) j
      omega
  · rw [if_neg e] at hx
    rcases List.mem_append.1 hx with hx | hx
    · exact hh x hx
    · exact mem_of_getD zs hz x hx

end Go.Proofs.Qxb6613194aFmt
