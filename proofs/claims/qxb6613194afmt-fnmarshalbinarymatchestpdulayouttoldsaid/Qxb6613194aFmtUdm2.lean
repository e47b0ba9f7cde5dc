import Derived.Test.Qxb6613194aFmtUdm
namespace Go.Proofs.Qxb6613194aFmt
open Go.RowKit

set_option maxRecDepth 100000 in
set_option maxHeartbeats 800000 in
theorem udm_empty (al : Int) (g o c : Nat) (ho : Option Addr) (hcap : Nat) (ao : Option Addr) (cap : Nat) (w : World) (hal : al = 0 ∨ al = 2) (hc : 1 ≤ c) (h0 : w.cell? ⟨g, o, none⟩ = some (.int .u8 0)) :
    Calls Tryf.prog 15 #[.slice (some ⟨g, o, none⟩) 1 c, .int .u8 al, .slice ho 0 hcap, .slice ao 0 cap, .int .i64 0] w fun e w' => e = .returned (.bool true) ∧ w' = w := by
  rcases hal with rfl | rfl
  · by_cases hc1 : c = 1
    · subst hc1
      go_enter Tryf.func15, Tryf.ntmps15
      go_wp2_with fail
      refine (ceil_any _ _ _ (by omega) (by omega) (by omega) (by omega)).mono ?_
      rintro e w' ⟨rfl, rfl⟩
      go_wp2
      refine wp_loop_rounds 1 ?_
      rw [rounds_succ]
      go_wp2
      go_ret
      exact ⟨rfl, rfl⟩
    · go_enter Tryf.func15, Tryf.ntmps15
      go_wp2_with fail
      refine (ceil_any _ _ _ (by omega) (by omega) (by omega) (by omega)).mono ?_
      rintro e w' ⟨rfl, rfl⟩
      go_wp2
      refine wp_loop_rounds 1 ?_
      rw [rounds_succ]
      go_wp2
      go_ret
      exact ⟨rfl, rfl⟩
  · by_cases hc1 : c = 1
    · subst hc1
      go_enter Tryf.func15, Tryf.ntmps15
      go_wp2
      refine wp_loop_rounds 1 ?_
      rw [rounds_succ]
      go_wp2
      go_ret
      exact ⟨rfl, rfl⟩
    · go_enter Tryf.func15, Tryf.ntmps15
      go_wp2
      refine wp_loop_rounds 1 ?_
      rw [rounds_succ]
      go_wp2
      go_ret
      exact ⟨rfl, rfl⟩

theorem ud_len_le (al : Int) (h zs : List Int) (hal : al = 0 ∨ al = 2) (hD : (Pl.udData al h zs).length ≤ 140) : Pl.udLen al h zs ≤ 255 ∧ h.length ≤ (Pl.udData al h zs).length := by
  have hf := Pl.fill_le h.length
  unfold Pl.hs at hf
  rcases hal with rfl | rfl
  · unfold Pl.udData at hD ⊢
    unfold Pl.udLen Pl.hs
    rw [if_pos rfl] at hD ⊢
    rw [if_pos rfl]
    rw [List.length_append, Pl.packed_len] at hD ⊢
    omega
  · unfold Pl.udData at hD ⊢
    unfold Pl.udLen
    rw [if_neg (by decide)] at hD ⊢
    rw [if_neg (by decide)]
    rw [List.length_append] at hD ⊢
    omega

theorem ud_zero (al : Int) (h zs : List Int) (hal : al = 0 ∨ al = 2) (hD : (Pl.udData al h zs).length = 0) : h.length = 0 ∧ zs.length = 0 ∧ Pl.udLen al h zs = 0 := by
  have hf := Pl.fill_le h.length
  unfold Pl.hs at hf
  rcases hal with rfl | rfl
  · unfold Pl.udData at hD
    unfold Pl.udLen Pl.hs
    rw [if_pos rfl] at hD
    rw [if_pos rfl]
    rw [List.length_append, Pl.packed_len] at hD
    omega
  · unfold Pl.udData at hD
    unfold Pl.udLen
    rw [if_neg (by decide)] at hD
    rw [if_neg (by decide)]
    rw [List.length_append] at hD
    omega

/-- userDataMatches says yes to what UserData.appendTo wrote. -/
theorem udm_any (al : Int) (g o n c : Nat) (ho : Option Addr) (hb hoff hn hcap : Nat) (es : Nat → El) (ao : Option Addr) (b off len cap : Nat) (zs : List Int) (w : World) (hal : al = 0 ∨ al = 2)
    (hd : Hd w w.heap.size ho hb hoff hn es) (hr : Rd w w.heap.size ao b off len zs) (hD : (Pl.udData al (Pl.hdr (ids es) (dats es) hn) zs).length ≤ 140)
    (hn1 : n = 1 + (Pl.udData al (Pl.hdr (ids es) (dats es) hn) zs).length) (hnc : n ≤ c) (hu : Um w g o (Pl.udLen al (Pl.hdr (ids es) (dats es) hn) zs) (Pl.udData al (Pl.hdr (ids es) (dats es) hn) zs))
    (hn3 : hn ≤ 1048576) (hl3 : len ≤ 1048576) (hdb : ∀ j, 0 ≤ (Pl.udData al (Pl.hdr (ids es) (dats es) hn) zs).getD j 0 ∧ (Pl.udData al (Pl.hdr (ids es) (dats es) hn) zs).getD j 0 ≤ 255) :
    Calls Tryf.prog 15 #[.slice (some ⟨g, o, none⟩) n c, .int .u8 al, .slice ho hn hcap, .slice ao len cap, .int .i64 ((Pl.hdr (ids es) (dats es) hn).length : Nat)] w (Yes3 w) := by
  obtain ⟨u1, u2⟩ := ud_len_le al _ zs hal hD
  by_cases hpos : 0 < (Pl.udData al (Pl.hdr (ids es) (dats es) hn) zs).length
  · exact udm_main al g o n c ho hb hoff hn hcap es ao b off len cap zs w hal hd hr hD hpos hn1 hnc hu u1 u2 hn3 hl3 hdb
  · obtain ⟨z1, z2, z3⟩ := ud_zero al (Pl.hdr (ids es) (dats es) hn) zs hal (by omega)
    have hn0 : hn = 0 := by
      rcases Nat.eq_zero_or_pos hn with h | h
      · exact h
      · have := hdr_length es hn h
        omega
    subst hn0
    have hl0 : len = 0 := by have := hr.len_; omega
    subst hl0
    have h0 := hu.len
    rw [z3] at h0
    have e1 : n = 1 := by omega
    subst e1
    rw [z1]
    refine (udm_empty al g o c ho hcap ao cap w hal hnc h0).mono ?_
    rintro e w' ⟨rfl, rfl⟩
    exact ⟨rfl, Below.refl _ _⟩

end Go.Proofs.Qxb6613194aFmt
