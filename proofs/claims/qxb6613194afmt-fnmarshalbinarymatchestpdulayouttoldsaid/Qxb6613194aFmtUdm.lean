import Derived.Test.Qxb6613194aFmtDigs
import Derived.Test.Qxb6613194aFmtLaw3Pl
import Derived.Deep.QuietTactic
import Derived.BigQuiet
namespace Go.Proofs.Qxb6613194aFmt
open Go.RowKit

/-- What userDataMatches looks at. -/
structure Um (w : World) (g o : Nat) (L : Nat) (D : List Int) : Prop where
  lt : g < w.heap.size
  len : w.cell? ⟨g, o, none⟩ = some (.int .u8 L)
  cell : ∀ j, j < D.length → w.cell? ⟨g, o + 1 + j, none⟩ = some (.int .u8 (D.getD j 0))

theorem Um.below {w w' : World} {g o L : Nat} {D : List Int} (h : Um w g o L D) (hb : Below w.heap.size w w') : Um w' g o L D :=
  ⟨Nat.lt_of_lt_of_le h.lt hb.size, (hb.cell h.lt).trans h.len, fun j hj => (hb.cell h.lt).trans (h.cell j hj)⟩

theorem shr_bd (y : Int) (r : Nat) (h0 : 0 ≤ y) (h1 : y ≤ 255) : 0 ≤ y / 2 ^ r ∧ y / 2 ^ r < 256 := by
  have hp : (0 : Int) < 2 ^ r := Int.pow_pos (by decide)
  refine ⟨Int.ediv_nonneg h0 (by omega), ?_⟩
  have := Int.ediv_le_self (2 ^ r) h0
  omega

theorem and_one (v : Int) (h0 : 0 ≤ v) (h1 : v < 256) : bits .and .u8 v 1 = v % 2 := by
  rw [u8_and _ _ h0 h1 (by omega) (by omega), show (1 : Int).toNat = 1 from rfl, nat_mask1]
  omega

theorem bits_of (h zs : List Int) (x : Nat) (hz : ∀ j, 0 ≤ zs.getD j 0) (hx1 : 8 * h.length ≤ x) (hx2 : x < 8 * (Pl.udData 0 h zs).length) :
    ((Pl.udData 0 h zs).getD (x / 8) 0 / 2 ^ (x % 8) % 2 : Int) = if x < 7 * ((h.length * 8 + 6) / 7) then 0 else if x < 7 * ((h.length * 8 + 6) / 7 + zs.length) then zs.getD ((x - 7 * ((h.length * 8 + 6) / 7)) / 7) 0 / 2 ^ ((x - 7 * ((h.length * 8 + 6) / 7)) % 7) % 2 else 0 := by
  have hf := Pl.fill_le h.length
  unfold Pl.hs at hf
  rw [packed_at h zs (x / 8) (by omega) (by omega)]
  have e1 : ((Pl.packAt (Pl.packN (Pl.fillOf h.length) (fun t => (zs.getD t 0).toNat) zs.length) (x / 8 - h.length) : Nat) : Int) / 2 ^ (x % 8) % 2 =
      ((Pl.packAt (Pl.packN (Pl.fillOf h.length) (fun t => (zs.getD t 0).toNat) zs.length) (x / 8 - h.length) / 2 ^ (x % 8) % 2 : Nat) : Int) := by simp
  rw [e1, packAt_bit _ _ _ (by omega), packN_bit]
  by_cases c1 : x < 7 * ((h.length * 8 + 6) / 7)
  · rw [if_pos c1, if_pos (by omega)]; rfl
  · rw [if_neg c1, if_neg (by omega)]
    have e2 : (8 * (x / 8 - h.length) + x % 8 - Pl.fillOf h.length) = x - 7 * ((h.length * 8 + 6) / 7) := by omega
    rw [e2]
    by_cases c2 : x < 7 * ((h.length * 8 + 6) / 7 + zs.length)
    · rw [if_pos c2, if_pos (by omega)]
      obtain ⟨n, hn⟩ := Int.eq_ofNat_of_zero_le (hz ((x - 7 * ((h.length * 8 + 6) / 7)) / 7))
      rw [hn]
      simp
    · rw [if_neg c2, if_neg (by omega)]; rfl

def Yes3 (w : World) (e : Ending) (w' : World) : Prop := e = .returned (.bool true) ∧ Below w.heap.size w w'

set_option maxRecDepth 100000 in
set_option maxHeartbeats 4000000 in
theorem udm_main (al : Int) (g o n c : Nat) (ho : Option Addr) (hb hoff hn hcap : Nat) (es : Nat → El) (ao : Option Addr) (b off len cap : Nat) (zs : List Int) (w : World) (hal : al = 0 ∨ al = 2)
    (hd : Hd w w.heap.size ho hb hoff hn es) (hr : Rd w w.heap.size ao b off len zs) (hD : (Pl.udData al (Pl.hdr (ids es) (dats es) hn) zs).length ≤ 140) (hpos : 0 < (Pl.udData al (Pl.hdr (ids es) (dats es) hn) zs).length)
    (hn1 : n = 1 + (Pl.udData al (Pl.hdr (ids es) (dats es) hn) zs).length) (hnc : n ≤ c) (hu : Um w g o (Pl.udLen al (Pl.hdr (ids es) (dats es) hn) zs) (Pl.udData al (Pl.hdr (ids es) (dats es) hn) zs)) (hul : Pl.udLen al (Pl.hdr (ids es) (dats es) hn) zs ≤ 255)
    (hhl : (Pl.hdr (ids es) (dats es) hn).length ≤ (Pl.udData al (Pl.hdr (ids es) (dats es) hn) zs).length) (hn3 : hn ≤ 1048576) (hl3 : len ≤ 1048576) (hdb : ∀ j, 0 ≤ (Pl.udData al (Pl.hdr (ids es) (dats es) hn) zs).getD j 0 ∧ (Pl.udData al (Pl.hdr (ids es) (dats es) hn) zs).getD j 0 ≤ 255) :
    Calls Tryf.prog 15 #[.slice (some ⟨g, o, none⟩) n c, .int .u8 al, .slice ho hn hcap, .slice ao len cap, .int .i64 ((Pl.hdr (ids es) (dats es) hn).length : Nat)] w (Yes3 w) := by
  have HH : Hid (∀ X, ∀ i, i < hn → (Pl.hdr (ids es) (dats es) hn ++ X).getD (1 + (Pl.hdrTo (ids es) (dats es) i).length) 0 = ids es i ∧ (Pl.hdr (ids es) (dats es) hn ++ X).getD (1 + (Pl.hdrTo (ids es) (dats es) i).length + 1) 0 = ((dats es i).length : Int) % 256 ∧
    ∀ j, j < (dats es i).length → (Pl.hdr (ids es) (dats es) hn ++ X).getD (1 + (Pl.hdrTo (ids es) (dats es) i).length + 2 + j) 0 = (dats es i).getD j 0) := fun X i hi => hdr_at (ids es) (dats es) hn i hi X
  obtain ⟨X, hX⟩ : ∃ X, Pl.udData al (Pl.hdr (ids es) (dats es) hn) zs = Pl.hdr (ids es) (dats es) hn ++ X := by
    unfold Pl.udData
    by_cases e : al = 0
    · rw [if_pos e]; exact ⟨_, rfl⟩
    · rw [if_neg e]; exact ⟨_, rfl⟩
  have hc1 : ¬ c = 1 := by omega
  have c0 := hu.len
  have HU := hide hu
  have HD := hide hd
  have HR := hide hr
  have HX := hide hX
  have HAL := hide hal
  have DB := hide hdb
  clear hu hd hr hX hal hdb
  generalize hDe : Pl.udData al (Pl.hdr (ids es) (dats es) hn) zs = D at *
  generalize hLe : Pl.udLen al (Pl.hdr (ids es) (dats es) hn) zs = L at *
  have HDe := hide hDe
  have HLe := hide hLe
  clear hDe hLe
  subst hn1
  have k0 := HU.out.cell 0 hpos
  rw [Nat.add_zero] at k0
  go_enter Tryf.func15, Tryf.ntmps15
  go_upto_if 31 with fail
  go_cut [] (fun wx => Below w.heap.size w wx)
  case first =>
    by_cases hp : 0 < hn
    · obtain rfl := HD.out.at_ hp
      have hfst : D.getD 0 0 = ((Pl.hdrTo (ids es) (dats es) hn).length : Int) % 256 := by rw [HX.out]; exact hdr_first _ _ _ hp _
      have hhl2 := hdr_length es hn hp
      have hLb : (Pl.hdrTo (ids es) (dats es) hn).length ≤ 139 := by omega
      rw [hfst, show ((Pl.hdrTo (ids es) (dats es) hn).length : Int) % 256 = ((Pl.hdrTo (ids es) (dats es) hn).length : Int) by omega] at k0
      have HHL := hide hhl2
      have hne : (((Pl.hdrTo (ids es) (dats es) hn).length : Int) != ((Pl.hdr (ids es) (dats es) hn).length : Int) - 1) = false := by simp; omega
      clear hfst hhl2
      go_wp2
      go_loopw [13, 14] (fun q i wr => ∃ (k Q : Nat), k ≤ hn ∧ i = .int .i64 k ∧ q = .int .i64 Q ∧ Hid (Q = 1 + (Pl.hdrTo (ids es) (dats es) k).length) ∧ Below w.heap.size w wr) (fun _ i _ => hn - (intOf i).toNat)
      case atStart => exact ⟨0, 1, Nat.zero_le _, rfl, rfl, rfl, Below.refl _ _⟩
      case round =>
        obtain ⟨k, Q, hk, rfl, rfl, hQ, hbw⟩ := hrel
        by_cases hlt : k < hn
        · have hHd := HD.out.below hbw
          have hid := hHd.id k hlt
          have hda := hHd.data k hlt
          have HRd := hide (HD.out.rd k hlt)
          have hkl := Pl.hdrTo_len (ids es) (dats es) k hn hlt
          have hzl := (HD.out.rd k hlt).len_
          obtain ⟨m1, m2, m3⟩ := HH.out X k hlt
          rw [← HX.out, ← hQ.out] at m1 m2 m3
          have hez : (dats es k).length = (es k).len := hzl
          rw [hez] at m2 m3 hkl
          have hQ2 := hQ.out
          have hh3 := HHL.out
          have y0 := (HU.out.below hbw).cell Q (by omega)
          have y1 := (HU.out.below hbw).cell (Q + 1) (by omega)
          rw [m1] at y0
          rw [m2, show ((es k).len : Int) % 256 = ((es k).len : Int) by omega] at y1
          have hQb : Q + 2 + (es k).len ≤ D.length := by omega
          have HQ3 : Hid (Q + 2 + (es k).len = 1 + (Pl.hdrTo (ids es) (dats es) (k + 1)).length) := by
            show Q + 2 + (es k).len = 1 + (Pl.hdrTo (ids es) (dats es) k ++ [_, _] ++ dats es k).length
            simp [hez]; omega
          have M3 := hide m3
          have hidk : ids es k = (es k).id := rfl
          rw [hidk] at y0
          clear m1 m2 m3 hez hzl hkl hQ2 hHd hidk hh3
          have hq1 : (Q : Int) + 1 < (D.length : Int) := by omega
          go_wp2
          go_quiet (fail)
          go_wp2
          go_loopw [15] (fun j wr2 => ∃ t : Nat, t ≤ (es k).len ∧ j = .int .i64 t ∧ Below w.heap.size w wr2) (fun j _ => (es k).len - (intOf j).toNat)
          case atStart => exact ⟨0, Nat.zero_le _, rfl, below_drewN hbw _⟩
          case round =>
            clear hbw hid hda y0 y1
            obtain ⟨t, ht, rfl, hbw⟩ := hrel
            have hda := (HD.out.below hbw).data k hlt
            by_cases hlt2 : t < (es k).len
            · have y2 := (HU.out.below hbw).cell (Q + 2 + t) (by omega)
              rw [M3.out t hlt2] at y2
              have hE := HRd.out.at_ (by omega)
              have z2 := (HRd.out.below hbw).cell t hlt2
              have hdk : (dats es k).getD t 0 = (es k).zs.getD t 0 := rfl
              rw [hdk] at y2
              rw [hE] at hda
              generalize (es k).zs.getD t 0 = y at y2 z2
              have hq2 : (Q : Int) + 2 + (t : Int) < (D.length : Int) := by omega
              clear hE hdk
              go_wp2
              go_quiet (fail)
              go_wp2
              go_roundw
              case rel => exact ⟨t + 1, by omega, by go_num, below_drewN hbw _⟩
              case measure => simp [intOf]; omega
            · obtain rfl : t = (es k).len := by omega
              go_wp2
              go_roundw
              case rel => exact ⟨k + 1, Q + 2 + (es k).len, by omega, by go_num, by go_num, HQ3, hbw⟩
              case measure => simp [intOf]; omega
        · go_wp2
          go_meet
          exact hbw
    · go_wp2
      go_meet
      exact Below.refl _ _
  case rest =>
    have hlz := HR.out.len_
    rcases HAL.out with rfl | rfl
    · have hL : L = ((Pl.hdr (ids es) (dats es) hn).length * 8 + 6) / 7 + len := by
        rw [← HLe.out, ← hlz]; unfold Pl.udLen Pl.hs; rw [if_pos rfl]
      have hDl : D.length = (Pl.hdr (ids es) (dats es) hn).length + (Pl.fillOf (Pl.hdr (ids es) (dats es) hn).length + len * 7 + 7) / 8 := by
        rw [← HDe.out, ← hlz]; unfold Pl.udData; rw [if_pos rfl, List.length_append, Pl.packed_len]
      have hfl := Pl.fill_le (Pl.hdr (ids es) (dats es) hn).length
      unfold Pl.hs at hfl
      have HB : Hid (∀ x, 8 * (Pl.hdr (ids es) (dats es) hn).length ≤ x → x < 8 * D.length → ((D.getD (x / 8) 0 / 2 ^ (x % 8) % 2 : Int) = if x < 7 * (((Pl.hdr (ids es) (dats es) hn).length * 8 + 6) / 7) then 0 else if x < 7 * L then zs.getD ((x - 7 * (((Pl.hdr (ids es) (dats es) hn).length * 8 + 6) / 7)) / 7) 0 / 2 ^ ((x - 7 * (((Pl.hdr (ids es) (dats es) hn).length * 8 + 6) / 7)) % 7) % 2 else 0)) := fun x hx1 hx2 => by
        have := bits_of (Pl.hdr (ids es) (dats es) hn) zs x (fun j => (HR.out.bd j).1) hx1 (by rw [HDe.out]; exact hx2)
        rw [HDe.out, hlz, ← hL] at this
        exact this
      have Db : Hid (∀ j, 0 ≤ D.getD j 0 ∧ D.getD j 0 ≤ 255) := DB.out
      generalize (Pl.hdr (ids es) (dats es) hn).length = hl at *
      generalize hsx : (hl * 8 + 6) / 7 = S at *
      have HSx := hide hsx
      have HL := hide hL
      have HDl := hide hDl
      have hS7 : 7 * S ≤ 8 * hl + 6 := by omega
      have hS8 : 8 * hl ≤ 7 * S := by omega
      have hS : ((8 * (hl : Int)) + 7 - 1) / 7 = S := by omega
      have hbnd : hl ≤ 140 ∧ S ≤ 160 ∧ len ≤ 160 := by omega
      have hLn : ((L : Int) != (S : Int) + (len : Int)) = false := by simp; omega
      clear hsx hL hDl hfl
      go_wp2_with fail
      refine (ceil_any _ _ _ (by omega) (by omega) (by omega) (by omega)).mono ?_
      rintro e w' ⟨rfl, rfl⟩
      rw [hS]
      clear hS
      go_wp2
      go_loopw [19] (fun i wr => ∃ k : Nat, 8 * hl ≤ k ∧ k ≤ 8 * D.length ∧ i = .int .i64 k ∧ Below w.heap.size w wr) (fun i _ => 8 * D.length - (intOf i).toNat)
      case atStart => exact ⟨8 * hl, Nat.le_refl _, by omega, by go_num, hcut⟩
      case round =>
        obtain ⟨k, hk1, hk2, rfl, hbw⟩ := hrel
        by_cases hlt : k < 8 * D.length
        · have y0 := ((HU.out.below hbw).cell (k / 8) (by omega))
          have hB := HB.out k hk1 hlt
          have hyb := Db.out (k / 8)
          generalize D.getD (k / 8) 0 = y at y0 hB hyb
          have hyb2 := shr_bd y (k % 8) hyb.1 hyb.2
          have hand := and_one (y / 2 ^ (k % 8)) hyb2.1 hyb2.2
          by_cases h7 : k < 7 * S
          · rw [if_pos h7] at hB
            rw [hB] at hand
            clear hB hyb2 hyb
            go_wp2
            go_roundw
            case rel => exact ⟨k + 1, by omega, by omega, by go_num, hbw⟩
            case measure => simp [intOf]; omega
          · rw [if_neg h7] at hB
            by_cases h8 : k < 7 * L
            · have hL := HL.out
              rw [if_pos h8] at hB
              rw [hB] at hand
              obtain rfl := HR.out.at_ (by omega)
              have z0 := (HR.out.below hbw).cell ((k - 7 * S) / 7) (by omega)
              have hzb := HR.out.bd ((k - 7 * S) / 7)
              generalize zs.getD ((k - 7 * S) / 7) 0 = z at z0 hB hand hzb
              have hzb2 := shr_bd z ((k - 7 * S) % 7) hzb.1 hzb.2
              have hand2 := and_one (z / 2 ^ ((k - 7 * S) % 7)) hzb2.1 hzb2.2
              rw [← hand2, show (k - 7 * S) % 7 = k % 7 by omega] at hand
              have h8' : (k : Int) < 7 * ((S : Int) + (len : Int)) := by omega
              clear hB hyb2 hyb hand2 hL
              go_wp2
              go_roundw
              case rel => exact ⟨k + 1, by omega, by omega, by go_num, hbw⟩
              case measure => simp [intOf]; omega
            · have hL := HL.out
              rw [if_neg h8] at hB
              rw [hB] at hand
              have h8' : ¬ (k : Int) < 7 * ((S : Int) + (len : Int)) := by omega
              clear hB hyb2 hyb hL
              go_wp2
              go_roundw
              case rel => exact ⟨k + 1, by omega, by omega, by go_num, hbw⟩
              case measure => simp [intOf]; omega
        · go_wp2
          go_ret
          exact ⟨rfl, hbw⟩
    · have hL : L = (Pl.hdr (ids es) (dats es) hn).length + len := by
        rw [← HLe.out, ← hlz]; unfold Pl.udLen; rw [if_neg (by decide)]
      have hDz : D = Pl.hdr (ids es) (dats es) hn ++ zs := by
        rw [← HDe.out]; unfold Pl.udData; rw [if_neg (by decide)]
      have HT : Hid (∀ i, i < len → D.getD ((Pl.hdr (ids es) (dats es) hn).length + i) 0 = zs.getD i 0) := fun i hi => by
        rw [hDz, List.getD_eq_getElem?_getD, List.getElem?_append_right (by omega), Nat.add_sub_cancel_left, List.getD_eq_getElem?_getD]
      have hDl : D.length = (Pl.hdr (ids es) (dats es) hn).length + len := by rw [hDz, List.length_append, hlz]
      have hLn : ((L : Int) != ((Pl.hdr (ids es) (dats es) hn).length : Int) + (len : Int)) = false := by simp; omega
      have HL := hide hL
      have HDl := hide hDl
      have hlenb : len ≤ 140 := by omega
      have hhb : (Pl.hdr (ids es) (dats es) hn).length ≤ 140 := by omega
      clear hL hDz hDl
      go_wp2
      go_loopw [16] (fun i wr => ∃ k : Nat, k ≤ len ∧ i = .int .i64 k ∧ Below w.heap.size w wr) (fun i _ => len - (intOf i).toNat)
      case atStart => exact ⟨0, Nat.zero_le _, rfl, hcut⟩
      case round =>
        obtain ⟨k, hk, rfl, hbw⟩ := hrel
        by_cases hlt : k < len
        · have hDl2 := HDl.out
          have y0 := ((HU.out.below hbw).cell ((Pl.hdr (ids es) (dats es) hn).length + k) (by omega))
          rw [HT.out k hlt] at y0
          obtain rfl := HR.out.at_ (by omega)
          have y1 := (HR.out.below hbw).cell k hlt
          generalize zs.getD k 0 = y at y0 y1
          have hix : (((Pl.hdr (ids es) (dats es) hn).length : Int) + (k : Int)) < (D.length : Int) := by omega
          clear hDl2
          go_wp2
          go_quiet (fail)
          go_wp2
          go_roundw
          case rel => exact ⟨k + 1, by omega, by go_num, below_drewN hbw _⟩
          case measure => simp [intOf]; omega
        · go_wp2
          go_ret
          exact ⟨rfl, hbw⟩
end Go.Proofs.Qxb6613194aFmt
