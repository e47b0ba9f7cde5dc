import Derived.Test.Qxb6613194aFmtSub
import Derived.Test.Qxb6613194aFmtBytes
import Derived.Test.Qxb6613194aFmtLaw3Pl2
namespace Go.Proofs.Qxb6613194aFmt
open Go.RowKit

set_option maxHeartbeats 800000 in
theorem zz6_any (rd srr : Bool) (mr ton npi pid vp al : Int) (s nm : ByteArray) (ho : Option Addr) (hb hoff hn hcap : Nat) (es : Nat → El) (ao : Option Addr) (len cap : Nat) (w : World) (B : Nat)
    (hd : Hd w B ho hb hoff hn es) :
    Calls Tryf.prog 6 #[.bool rd, .bool srr, .int .u8 mr, .int .u8 ton, .int .u8 npi, .string s, .string nm, .int .u8 pid, .int .i64 vp, .int .u8 al, .slice ho hn hcap, .slice ao len cap] w (ZPost s nm hn len es w) := by
  have HD := hide hd
  clear hd
  go_enter Tryf.func6, Tryf.ntmps6
  go_wp2
  all_goals try (go_ret; exact ⟨false, rfl, rfl, fun h => by cases h⟩)
  go_loop [25, 26] (fun z i => ∃ (k : Nat) (q : Int), k ≤ hn ∧ i = .int .i64 k ∧ z = .int .i64 q ∧ 0 ≤ q ∧ q ≤ 1048576 ∧ Hid (∀ i, i < k → (es i).len ≤ 1048576)) (fun _ i => hn - (intOf i).toNat)
  case atStart => exact ⟨0, _, Nat.zero_le _, rfl, rfl, by omega, by omega, fun i h => absurd h (Nat.not_lt_zero _)⟩
  case round =>
    obtain ⟨k, q, hk, rfl, rfl, hq0, hq1, hall⟩ := hrel
    by_cases hlt : k < hn
    · obtain rfl := HD.out.at_ (by omega)
      have hc := HD.out.data k hlt
      go_wp2
      all_goals first
        | (go_ret; exact ⟨false, rfl, rfl, fun h => by cases h⟩)
        | (go_round
           case rel =>
             refine ⟨k + 1, _, by omega, by go_num, rfl, by omega, by omega, fun i hi => ?_⟩
             rcases Nat.lt_or_ge i k with h' | h'
             · exact hall.out i h'
             · obtain rfl : i = k := by omega
               omega
           case measure => simp [intOf]; omega)
    · obtain rfl : k = hn := by omega
      go_wp2
      all_goals first
        | (go_ret; exact ⟨false, rfl, rfl, fun h => by cases h⟩)
        | (go_ret; exact ⟨true, rfl, rfl, fun _ => ⟨by omega, by omega, by omega, by omega, hall.out⟩⟩)


theorem OB_cap {w : World} {base g q n : Nat} {xs : List Int} (h : OB w base (.slice (some ⟨g, 0, none⟩) n q) n xs) : n ≤ q := by
  rcases h.2 with ⟨h', _⟩ | ⟨g', cap', cur, h', _, _, hnc, _⟩
  · cases h'
  · simp only [Value.slice.injEq, Option.some.injEq, Addr.mk.injEq, and_true, true_and] at h'
    obtain ⟨rfl, rfl⟩ := h'
    exact hnc

set_option maxRecDepth 100000 in
set_option maxHeartbeats 8000000 in
theorem law3 (rd srr : Bool) (mr ton npi : Int) (s nm : ByteArray) (pid vp al : Int) (ho : Option Addr) (hb hoff hn hcap : Nat) (es : Nat → El) (ao : Option Addr) (b off len cap : Nat) (zs : List Int) (w : World)
    (hd : Hd w w.heap.size ho hb hoff hn es) (hr : Rd w w.heap.size ao b off len zs) (hz : ho = none → hn = 0 ∧ hcap = 0) (hz2 : ao = none → len = 0 ∧ cap = 0)
    (t0 : 0 ≤ ton) (t1 : ton ≤ 255) (n0 : 0 ≤ npi) (n1 : npi ≤ 255) (a0 : 0 ≤ al) (a1 : al ≤ 255) (v0 : -9223372036854775808 ≤ vp) (v1 : vp ≤ 9223372036854775807) :
    Calls Tryf.prog 3 #[.bool rd, .bool srr, .int .u8 mr, .int .u8 ton, .int .u8 npi, .string s, .string nm, .int .u8 pid, .int .i64 vp, .int .u8 al, .slice ho hn hcap, .slice ao len cap] w (Yes3 w) := by
  have HD := hide hd
  have HR := hide hr
  have HZ := hide hz
  have HZ2 := hide hz2
  clear hd hr hz hz2
  go_enter Tryf.func3, Tryf.ntmps3
  go_wp2_with fail
  refine (zz6_any rd srr mr ton npi pid vp al s nm ho hb hoff hn hcap es ao len cap w _ HD.out).mono ?_
  rintro e w1 ⟨bb, rfl, rfl, hbb⟩
  cases bb with
  | false =>
    go_wp2
    go_ret
    exact ⟨rfl, Below.refl _ _⟩
  | true =>
  obtain ⟨b1, b2, b3, b4, b5⟩ := hbb rfl
  have B5 := hide b5
  clear b5 hbb
  go_wp2_with fail
  refine (size_any s nm ho hb hoff hn hcap es ao len cap _ _ HD.out b1 b2 b3 b4 B5.out).mono ?_
  rintro e w2 ⟨bb, rfl, rfl, hbb⟩
  cases bb with
  | false =>
    go_wp2
    go_ret
    exact ⟨rfl, Below.refl _ _⟩
  | true =>
  obtain ⟨d1, d2, d3⟩ := hbb rfl
  have D3 := hide d3
  clear d3 hbb
  go_wp2_with fail
  refine (toH_any ho hb hoff hn hcap es _ HD.out HZ.out b3).mono ?_
  rintro e w3 ⟨ho', hb', hcap', rfl, hd3, hbel3⟩
  have hsz3 := hbel3.size
  have hS : Sub (w3.alloc (subObj rd srr mr ton npi s nm pid vp al ho' hn hcap' ao len cap)) _ w3.heap.size rd srr mr ton npi s nm pid vp al ho' hb' 0 hn hcap' es ao b off len cap zs :=
    sub_at rfl (Below.refl _ _) hd3 ((HR.out.below hbel3).up hsz3) HZ2.out t0 t1 n0 n1 a0 a1 v0 v1 (by omega) (by have := D3.out; omega) (by omega) (by omega)
  have HS := hide hS
  have HB3 := hide hbel3
  clear hS hd3 hbel3
  go_wp2_with fail
  refine (marsh_any _ _ _ _ _ _ _ _ _ _ _ _ _ _ _ _ _ _ _ _ _ _ _ _ HS.out).mono ?_
  intro e w5 hp1
  have hlz := HR.out.len_
  have hhl := Pl.hdr_len (ids es) (dats es) hn
  have hd3 := D3.out
  rcases hp1 with ⟨hV, v, rfl, hown5, hbe5⟩ | ⟨hV, t, a, rfl, hbe5⟩
  · have HB5 : Hid (Below w.heap.size w w5) := (HB3.out.alloc hsz3 _).trans (hbe5.mono (by simp; omega))
    have HHd := hide (HD.out.below HB5.out)
    go_wp2_with fail
    refine (hdrOct_any ho hb hoff hn hcap es _ _ HHd.out d2 hd3).mono ?_
    rintro e w6 ⟨rfl, rfl⟩
    go_wp2_with fail
    refine (udOct_any al _ len _ (by omega) (by omega)).mono ?_
    rintro e w7 ⟨rfl, rfl⟩
    as_aux_lemma =>
    obtain ⟨⟨k1, k2, k3, k4, k5⟩, hal, hD⟩ := hV
    have hO : OB w7 _ _ _ _ := hown5
    have hA := oct_at rd srr mr ton npi s pid vp al hn (Pl.hdr (ids es) (dats es) hn) zs
    have hdb : ∀ j, 0 ≤ (Pl.udData al (Pl.hdr (ids es) (dats es) hn) zs).getD j 0 ∧ (Pl.udData al (Pl.hdr (ids es) (dats es) hn) zs).getD j 0 ≤ 255 := ud_bytes al es hn zs HHd.out HR.out.bd
    have hul := (ud_len_le al _ zs hal hD).1
    have hUe := udO_eq al (Pl.hdr (ids es) (dats es) hn) zs hal
    rw [hlz] at hUe
    have HUDM : Hid (∀ (g o n c : Nat), n = 1 + (Pl.udData al (Pl.hdr (ids es) (dats es) hn) zs).length → n ≤ c → Um w7 g o (Pl.udLen al (Pl.hdr (ids es) (dats es) hn) zs) (Pl.udData al (Pl.hdr (ids es) (dats es) hn) zs) →
        Calls Tryf.prog 15 #[.slice (some ⟨g, o, none⟩) n c, .int .u8 al, .slice ho hn hcap, .slice ao len cap, .int .i64 ((Pl.hdr (ids es) (dats es) hn).length : Nat)] w7 (Yes3 w7)) := fun g o n c e1 e2 e3 =>
      udm_any al g o n c ho hb hoff hn hcap es ao b off len cap zs w7 hal (HHd.out.up HB5.out.size) ((HR.out.below HB5.out).up HB5.out.size) hD e1 e2 e3 (by omega) (by omega) hdb
    rw [hUe]
    clear hdb hUe
    have HK5 := hide k5
    clear k5
    generalize octets rd srr mr ton npi s pid vp al hn (Pl.hdr (ids es) (dats es) hn) zs = L at *
    generalize Pl.udData al (Pl.hdr (ids es) (dats es) hn) zs = D at *
    generalize Pl.udLen al (Pl.hdr (ids es) (dats es) hn) zs = UL at *
    generalize (Pl.hdr (ids es) (dats es) hn).length = hl at *
    have hml : (s.size + 1) / 2 ≤ 10 := by omega
    obtain ⟨p0, p1, p2, p3, p4, p5, p6, p7, p8, p9, p10⟩ := hA
    obtain ⟨g, q, rfl⟩ := own_shape hO.out (by omega)
    have hqc : L.length ≤ q := OB_cap hO
    have hgl := (hO.lt _ rfl).2
    have C : Hid (∀ j x, j < L.length → L.getD j 0 = x → w7.cell? ⟨g, j, none⟩ = some (.int .u8 x)) := fun j x hj hx => own_cell hO.out j hj hx
    clear hown5 hbe5 HS hO
    have P4 := hide p4
    have P7 := hide p7
    have P9 := hide p9
    clear p4 p7 p9
    have x0 := C.out 0 _ (by omega) p0
    have x1 := C.out 1 _ (by omega) p1
    have x2 := C.out 2 _ (by omega) p2
    have x3 := C.out 3 _ (by omega) p3
    have x5 := C.out _ _ (by omega) p5
    have x6 := C.out _ _ (by omega) p6
    have hul2 : ((UL : Nat) : Int) % 256 = (UL : Int) := by omega
    rw [hul2] at p8
    have X8 := hide (C.out _ _ (by omega) p8)
    obtain ⟨f0, f1, f2, f3, f4, f5⟩ := flags_at rd srr vp hn
    have hfb := Pl.f4_bd rd vp srr hn
    generalize Pl.f4 rd vp srr hn = F at *
    obtain ⟨y1, y2, y3⟩ := type_at ton npi t0 k1 n0 k2
    have k3' : (ton != 5) = true := by simpa using k3
    have HP10 := hide p10
    clear p10 p0 p1 p2 p3 p5 p6 p8 hul2
    generalize hm : (s.size + 1) / 2 = m at *
    generalize hVe : (Pl.vpO vp).length = V at *
    have hm2 : ((s.size : Int) + 1) / 2 = (m : Int) := by omega
    have HM := hide hm
    have HVe := hide hVe
    have hV1 : V ≤ 1 := by rw [← hVe]; unfold Pl.vpO; split <;> simp
    clear hm hVe
    have hdd : (al * 4 % 256) / 16 = 0 ∧ bits .and .u8 ((al * 4 % 256) / 4) 3 = al ∧ bits .and .u8 (al * 4 % 256) 3 = 0 := by
      rcases hal with rfl | rfl <;> decide +kernel
    obtain ⟨r1, r2, r3⟩ := hdd
    have hddb : 0 ≤ al * 4 % 256 ∧ al * 4 % 256 ≤ 255 := by omega
    generalize al * 4 % 256 = dd at *
    have HAL := hide hal
    have HF2 := hide f2
    clear hal f2
    go_upto_region 9 with fail
    go_cut [30] (fun s30 wx => w7 = wx ∧ s30 = .bool true)
    case first =>
      as_aux_lemma =>
      rcases HAL.out with rfl | rfl
      · go_wp2_with fail
        refine (allDig_any s _ (by omega)).mono ?_
        rintro e w8 ⟨bd, rfl, rfl, hbd⟩
        obtain rfl := hbd.2 HK5.out
        clear hbd
        go_wp2
        go_meet
        exact ⟨rfl, by rw [decide_eq_true (by omega)]⟩
      · go_wp2_with fail
        refine (allDig_any s _ (by omega)).mono ?_
        rintro e w8 ⟨bd, rfl, rfl, hbd⟩
        obtain rfl := hbd.2 HK5.out
        clear hbd
        go_wp2
        go_meet
        exact ⟨rfl, by rw [decide_eq_true (by omega)]⟩
    case rest =>
    as_aux_lemma =>
    obtain ⟨rfl, rfl⟩ := hcut
    go_upto_if 144 with fail
    go_cut [32] (fun s32 wx => w7 = wx ∧ s32 = .int .i64 L.length)
    case first =>
      as_aux_lemma =>
      have hLn := HP10.out
      by_cases hvp : 0 < vp
      · have hV2 : V = 1 := by rw [← HVe.out]; unfold Pl.vpO; rw [if_pos hvp]; rfl
        have hLn2 : (6 : Int) + (m : Int) + 1 + (D.length : Int) + 1 = (L.length : Int) := by omega
        have HL2 := hide hLn2
        clear hLn2 hLn hV2
        go_wp2
        go_meet
        exact ⟨rfl, by rw [HL2.out]⟩
      · have hV2 : V = 0 := by rw [← HVe.out]; unfold Pl.vpO; rw [if_neg hvp]; rfl
        have hLn2 : (6 : Int) + (m : Int) + 1 + (D.length : Int) = (L.length : Int) := by omega
        have HL2 := hide hLn2
        clear hLn2 hLn hV2
        go_wp2
        go_meet
        exact ⟨rfl, by rw [HL2.out]⟩
    case rest =>
    as_aux_lemma =>
    obtain ⟨rfl, rfl⟩ := hcut
    have hLb : L.length ≤ 200 := by have := HP10.out; omega
    have hLc : 7 ≤ L.length ∧ 4 + m + 1 < L.length ∧ 6 + m + V < L.length := by have := HP10.out; omega
    go_upto_if 166 with fail
    go_cut [34] (fun _ wx => w7 = wx)
    case first =>
      as_aux_lemma =>
      by_cases hvp : 0 < vp
      · have hf2 := HF2.out
        rw [if_pos hvp] at hf2
        go_wp2
        go_meet
        rfl
      · have hf2 := HF2.out
        rw [if_neg hvp] at hf2
        go_wp2
        go_meet
        rfl
    case rest =>
    as_aux_lemma =>
    obtain rfl := hcut
    go_wp2
    go_loopw [36] (fun i wr => ∃ k : Nat, k ≤ s.size ∧ i = .int .i64 k ∧ w7 = wr) (fun i _ => s.size - (intOf i).toNat)
    case atStart => exact ⟨0, Nat.zero_le _, rfl, rfl⟩
    case round =>
      as_aux_lemma =>
      obtain ⟨k, hk, rfl, rfl⟩ := hrel
      by_cases hlt : k < s.size
      · have hse := sb_eq s k hlt
        have hbs := sb_bd s k
        have hb' : s[k].toNat ≤ 255 := by omega
        have hm' := HM.out
        have xt := C.out (4 + k / 2) _ (by omega) (P4.out (k / 2) (by omega))
        have htb := Pl.tbAt_bd (sb s) s.size (k / 2)
        have hix : (4 : Int) + (k : Int) / 2 < (L.length : Int) := by omega
        by_cases hpar : k % 2 = 0
        · have hpb : ((k : Int) % 2 == 0) = true := by simp; omega
          have hev := tb_even (sb s) s.size k hlt hpar
          have ha := and_15 _ htb.1 htb.2
          rw [hev] at ha
          generalize Pl.tbAt (sb s) s.size (k / 2) = T at *
          clear hev hm'
          go_wp2_with fail
          refine (dig_any _ _ (by omega) (by omega)).mono ?_
          rintro e w8 ⟨rfl, rfl⟩
          go_wp2
          go_roundw
          case rel => exact ⟨k + 1, by omega, by go_num, by first | rfl | trivial⟩
          case measure => simp [intOf]; omega
        · have hpb : ((k : Int) % 2 == 0) = false := by simp; omega
          have ha := tb_odd (sb s) s.size k hlt hpar
          generalize Pl.tbAt (sb s) s.size (k / 2) = T at *
          clear hm'
          go_wp2_with fail
          refine (dig_any _ _ (by omega) (by omega)).mono ?_
          rintro e w8 ⟨rfl, rfl⟩
          go_wp2
          go_roundw
          case rel => exact ⟨k + 1, by omega, by go_num, by first | rfl | trivial⟩
          case measure => simp [intOf]; omega
      · obtain rfl : k = s.size := by omega
        clear hlt hk
        go_upto_region 55 with fail
        go_cut [256] (fun s256 wx => w7 = wx ∧ s256 = .bool false)
        case first =>
          as_aux_lemma =>
          have hm' := HM.out
          by_cases hodd : s.size % 2 = 1
          · have xt := C.out (4 + s.size / 2) _ (by omega) (P4.out (s.size / 2) (by omega))
            have ht := tb_end (sb s) s.size hodd
            have hix : (4 : Int) + (s.size : Int) / 2 < (L.length : Int) := by omega
            have hpb : ((s.size : Int) % 2 == 1) = true := by simp; omega
            have htb := Pl.tbAt_bd (sb s) s.size (s.size / 2)
            generalize Pl.tbAt (sb s) s.size (s.size / 2) = T at *
            clear hm'
            go_wp2
            go_meet
            exact ⟨rfl, rfl⟩
          · have hpb : ((s.size : Int) % 2 == 1) = false := by simp; omega
            clear hm'
            go_wp2
            go_meet
            exact ⟨rfl, rfl⟩
        case rest =>
        as_aux_lemma =>
        obtain ⟨rfl, rfl⟩ := hcut
        go_upto_if 290 with fail
        go_cut [41] (fun s41 wx => w7 = wx ∧ s41 = .int .i64 (6 + m + V : Nat))
        case first =>
          as_aux_lemma =>
          by_cases hvp : 0 < vp
          · have hV2 : V = 1 := by rw [← HVe.out]; unfold Pl.vpO; rw [if_pos hvp]; rfl
            subst hV2
            have xv := C.out (4 + m + 2) _ (by omega) (P7.out hvp)
            have hrv := Pl.rvp_bd vp hvp
            go_wp2_with fail
            refine (least_any vp _ hvp v1).mono ?_
            rintro e w8 ⟨rfl, rfl⟩
            go_wp2
            go_meet
            exact ⟨rfl, by go_num⟩
          · have hV2 : V = 0 := by rw [← HVe.out]; unfold Pl.vpO; rw [if_neg hvp]; rfl
            subst hV2
            go_wp2
            go_meet
            exact ⟨rfl, by go_num⟩
        case rest =>
        as_aux_lemma =>
        obtain ⟨rfl, rfl⟩ := hcut
        have hnq : ¬ q = 6 + m + V := by omega
        have hLn := HP10.out
        have hum : Um w7 g (6 + m + V) UL D := ⟨hgl, X8.out, fun j hj => C.out _ _ (by omega) (P9.out j hj)⟩
        have hcall := HUDM.out g (6 + m + V) (L.length - (6 + m + V)) (q - (6 + m + V)) (by omega) (by omega) hum
        have HC := hide hcall
        clear hcall hum hLn
        go_wp2_with fail
        refine HC.out.mono ?_
        rintro e w8 ⟨rfl, hb8⟩
        go_wp2
        go_ret
        exact ⟨rfl, HB5.out.trans (hb8.mono HB5.out.size)⟩
  · have HB5 : Hid (Below w.heap.size w w5) := (HB3.out.alloc hsz3 _).trans (hbe5.mono (by simp; omega))
    have HHd := hide (HD.out.below HB5.out)
    have HU : Hid (¬ (AddrOk ton npi s ∧ (al = 0 ∨ al = 2) ∧ udO al (Pl.hdr (ids es) (dats es) hn).length len ≤ 140)) := fun ⟨h0, h1, h2⟩ => hV ⟨h0, h1, by rw [← hlz, udO_eq al _ zs h1] at h2; exact h2⟩
    clear hV hbe5 HS
    go_wp2_with fail
    refine (hdrOct_any ho hb hoff hn hcap es _ _ HHd.out d2 hd3).mono ?_
    rintro e w6 ⟨rfl, rfl⟩
    go_wp2_with fail
    refine (udOct_any al _ len _ (by omega) (by omega)).mono ?_
    rintro e w7 ⟨rfl, rfl⟩
    generalize udO al (Pl.hdr (ids es) (dats es) hn).length len = U at *
    by_cases c1 : ton ≤ 7
    · by_cases c2 : npi ≤ 15
      · by_cases c3 : ton = 5
        · subst c3
          go_wp2
          go_ret
          exact ⟨rfl, HB5.out⟩
        · have c3' : (ton != 5) = true := by simpa using c3
          by_cases c4 : s.size ≤ 20
          · go_wp2_with fail
            refine (allDig_any s _ (by omega)).mono ?_
            rintro e w8 ⟨bd, rfl, rfl, hbd⟩
            cases bd with
            | false =>
              clear hbd
              go_wp2
              go_ret
              exact ⟨rfl, HB5.out⟩
            | true =>
              have hall := hbd.1 rfl
              clear hbd
              have HU2 : Hid (¬ ((al = 0 ∨ al = 2) ∧ U ≤ 140)) := fun h => HU.out ⟨⟨c1, c2, c3, c4, hall⟩, h⟩
              clear hall
              by_cases e0 : al = 0
              · subst e0
                have hU : decide ((U : Int) ≤ 140) = false := decide_eq_false fun h => HU2.out ⟨Or.inl rfl, by omega⟩
                go_wp2
                go_ret
                exact ⟨rfl, HB5.out⟩
              · have e0' : (al == 0) = false := by simpa using e0
                by_cases e2 : al = 2
                · subst e2
                  have hU : decide ((U : Int) ≤ 140) = false := decide_eq_false fun h => HU2.out ⟨Or.inr rfl, by omega⟩
                  go_wp2
                  go_ret
                  exact ⟨rfl, HB5.out⟩
                · have e2' : (al == 2) = false := by simpa using e2
                  go_wp2
                  go_ret
                  exact ⟨rfl, HB5.out⟩
          · go_wp2
            go_ret
            exact ⟨rfl, HB5.out⟩
      · go_wp2
        go_ret
        exact ⟨rfl, HB5.out⟩
    · go_wp2
      go_ret
      exact ⟨rfl, HB5.out⟩
end Go.Proofs.Qxb6613194aFmt
