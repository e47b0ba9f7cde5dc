import Derived.Test.Qxb6613194aFmtSub
import Derived.Test.Qxb6613194aFmtSmall2
namespace Go.Proofs.Qxb6613194aFmt
open Go.RowKit

/-- A law's yes; nothing that was there has turned. -/
def Yes5 (w : World) (e : Ending) (w' : World) : Prop := e = .returned (.bool true) ∧ Below w.heap.size w w'

def num : ByteArray := ⟨#[52, 57, 49, 53]⟩
theorem num_ok : AddrOk 1 1 num := by
  refine ⟨by decide, by decide, by decide, by decide, fun i hi => ?_⟩
  have hi' : i < 4 := hi
  rcases (show i = 0 ∨ i = 1 ∨ i = 2 ∨ i = 3 by omega) with rfl | rfl | rfl | rfl <;> decide +kernel

theorem oct7 (pid al : Int) (hn : Nat) (h zs : List Int) : (octets false false 0 1 1 num pid 0 al hn h zs).getD 7 0 = al * 4 % 256 ∧ 7 < (octets false false 0 1 1 num pid 0 al hn h zs).length := by
  have hs : num.size = 4 := rfl
  have ht : Pl.tbRow (sb num) 4 2 = [Pl.tbAt (sb num) 4 0, Pl.tbAt (sb num) 4 1] := rfl
  constructor
  · simp [octets, hs, ht]
  · simp [octets, hs, ht]

theorem dcs_and (al : Int) (h0 : 0 ≤ al) (h1 : al ≤ 255) : bits .and .u8 (al * 4 % 256) 3 = 0 ∧ ((al * 4 % 256) / 4 != bits .and .u8 al 63) = false := by
  constructor
  · rw [u8_and _ _ (by omega) (by omega) (by omega) (by omega), show (3 : Int).toNat = 3 from rfl, nat_mask2]
    omega
  · rw [u8_and _ _ (by omega) (by omega) (by omega) (by omega), show (63 : Int).toNat = 63 from rfl, nat_mask6]
    simp
    omega

set_option maxRecDepth 100000 in
set_option maxHeartbeats 4000000 in
theorem law5 (al : Int) (ho : Option Addr) (hb hoff hn hcap : Nat) (es : Nat → El) (ao : Option Addr) (b off len cap : Nat) (zs : List Int) (w : World)
    (hd : Hd w w.heap.size ho hb hoff hn es) (hr : Rd w w.heap.size ao b off len zs) (hz : ho = none → hn = 0 ∧ hcap = 0) (hz2 : ao = none → len = 0 ∧ cap = 0)
    (a0 : 0 ≤ al) (a1 : al ≤ 255) :
    Calls Tryf.prog 5 #[.int .u8 al, .slice ho hn hcap, .slice ao len cap] w (Yes5 w) := by
  have HD := hide hd
  have HR := hide hr
  have HZ := hide hz
  have HZ2 := hide hz2
  clear hd hr hz hz2
  obtain ⟨q1, q2⟩ := dcs_and al a0 a1
  go_enter Tryf.func5, Tryf.ntmps5
  go_wp2_with fail
  refine (zz17_any al ho hb hoff hn hcap es ao len cap w _ HD.out).mono ?_
  rintro e w1 ⟨bb, rfl, rfl, hbb⟩
  cases bb with
  | false =>
    go_wp2
    go_ret
    exact ⟨rfl, Below.refl _ _⟩
  | true =>
  obtain ⟨b1, b2, b3, b4, b5⟩ := hbb rfl
  have B5 := hide b5
  clear b5 hbb b1 b2
  go_wp2_with fail
  refine (size_any ⟨#[]⟩ ⟨#[]⟩ ho hb hoff hn hcap es ao len cap _ _ HD.out (Nat.zero_le _) (Nat.zero_le _) b3 b4 B5.out).mono ?_
  rintro e w2 ⟨bb, rfl, rfl, hbb⟩
  cases bb with
  | false =>
    go_wp2
    go_ret
    exact ⟨rfl, Below.refl _ _⟩
  | true =>
  obtain ⟨d1, d2, d3⟩ := hbb rfl
  have D3 := hide d3
  clear d3 hbb d1
  go_wp2_with fail
  refine (toH_any ho hb hoff hn hcap es _ HD.out HZ.out b3).mono ?_
  rintro e w3 ⟨ho', hb', hcap', rfl, hd3, hbel3⟩
  have hsz3 := hbel3.size
  have HDw : Hid (Hd w3 w.heap.size ho hb hoff hn es) := HD.out.below hbel3
  go_wp2_with fail
  refine (zzdcs_any w3.heap.size 0 al _ (by go_simp)).mono ?_
  rintro e w4 ⟨rfl, rfl⟩
  have hS : Sub ((w3.alloc (.cells #[.int .u8 al, .slice ho' hn hcap', .slice ao len cap] 34)).alloc (subObj false false 0 1 1 num ⟨#[]⟩ 0 0 al ho' hn hcap' ao len cap)) _ (w3.heap.size + 1) false false 0 1 1 num ⟨#[]⟩ 0 0 al ho' hb' 0 hn hcap' es ao b off len cap zs :=
    sub_at (w := w3.alloc (.cells #[.int .u8 al, .slice ho' hn hcap', .slice ao len cap] 34)) (by simp) (Below.refl _ _) ((hd3.below ((Below.refl _ _).alloc (Nat.le_refl _) _)).up (by simp)) ((((HR.out.below hbel3).up hsz3).below ((Below.refl _ _).alloc (Nat.le_refl _) _)).up (by simp)) HZ2.out (by omega) (by omega) (by omega) (by omega) a0 a1 (by omega) (by omega) (by decide) (by have := D3.out; omega) (by omega) (by omega)
  have HS := hide hS
  have HB3 := hide hbel3
  clear hS hd3 hbel3
  go_wp2_with fail
  refine (marsh_any _ _ _ _ _ _ _ _ _ _ _ _ _ _ _ _ _ _ _ _ _ _ _ _ HS.out).mono ?_
  intro e w5 hp1
  have hlz := HR.out.len_
  have hhl := Pl.hdr_len (ids es) (dats es) hn
  have hd3 := D3.out
  have hO7 := oct7 0 al hn (Pl.hdr (ids es) (dats es) hn) zs
  rcases hp1 with ⟨hV, v, rfl, hown5, hbe5⟩ | ⟨hV, t, a, rfl, hbe5⟩
  · have HB5 : Hid (Below w.heap.size w w5) := ((HB3.out.alloc hsz3 _).alloc (by simp; omega) _).trans (hbe5.mono (by simp; omega))
    have hHd : Hd w5 w.heap.size ho hb hoff hn es := HD.out.below HB5.out
    have HHd := hide hHd
    have hO : OB w5 _ _ _ _ := hown5
    obtain ⟨-, e0, e140⟩ := hV
    rw [← udO_eq al _ zs e0, hlz] at e140
    generalize octets false false 0 1 1 num 0 0 al hn (Pl.hdr (ids es) (dats es) hn) zs = L at *
    obtain ⟨g, q, rfl⟩ := own_shape hO.out (by omega)
    have c7 := own_cell hO.out 7 hO7.2 hO7.1
    have hL7 := hO7.2
    clear hbe5 HS hHd hO7 hown5 hO
    go_wp2_with fail
    refine (hdrOct_any ho hb hoff hn hcap es _ _ HHd.out d2 hd3).mono ?_
    rintro e w6 ⟨rfl, rfl⟩
    go_wp2_with fail
    refine (udOct_any al _ len _ (by omega) (by omega)).mono ?_
    rintro e w7 ⟨rfl, rfl⟩
    rcases e0 with rfl | rfl
    · go_wp2
      go_ret
      exact ⟨rfl, HB5.out⟩
    · go_wp2
      go_ret
      exact ⟨rfl, HB5.out⟩
  · have HB5 : Hid (Below w.heap.size w w5) := ((HB3.out.alloc hsz3 _).alloc (by simp; omega) _).trans (hbe5.mono (by simp; omega))
    have hHd : Hd w5 w.heap.size ho hb hoff hn es := HD.out.below HB5.out
    have HU : Hid (¬ ((al = 0 ∨ al = 2) ∧ udO al (Pl.hdr (ids es) (dats es) hn).length len ≤ 140)) := fun ⟨h1, h2⟩ => hV ⟨num_ok, h1, by rw [← hlz, udO_eq al _ zs h1] at h2; exact h2⟩
    have HHd := hide hHd
    clear hV hbe5 HS hHd hO7
    go_wp2_with fail
    refine (hdrOct_any ho hb hoff hn hcap es _ _ HHd.out d2 hd3).mono ?_
    rintro e w6 ⟨rfl, rfl⟩
    go_wp2_with fail
    refine (udOct_any al _ len _ (by omega) (by omega)).mono ?_
    rintro e w7 ⟨rfl, rfl⟩
    by_cases e0 : al = 0 ∨ al = 2
    · have h140 : 140 < udO al (Pl.hdr (ids es) (dats es) hn).length len := by
        have := HU.out
        rcases Nat.lt_or_ge 140 (udO al (Pl.hdr (ids es) (dats es) hn).length len) with h | h
        · exact h
        · exact absurd ⟨e0, h⟩ this
      rcases e0 with rfl | rfl
      · go_wp2
        go_ret
        exact ⟨rfl, HB5.out⟩
      · go_wp2
        go_ret
        exact ⟨rfl, HB5.out⟩
    · have n0 : (al != 0) = true := by simp; omega
      have n2 : (al != 2) = true := by simp; omega
      go_wp2
      go_ret
      exact ⟨rfl, HB5.out⟩
end Go.Proofs.Qxb6613194aFmt
