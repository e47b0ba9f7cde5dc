import Derived.Test.Qxb6613194aFmtSub
import Derived.Test.Qxb6613194aFmtLaw4Pl
import Derived.Deep.QuietTactic
import Derived.BigQuiet
namespace Go.Proofs.Qxb6613194aFmt
open Go.RowKit

/-- A law's yes; nothing that was there has turned. -/
def Yes (w : World) (e : Ending) (w' : World) : Prop := e = .returned (.bool true) ∧ Below w.heap.size w w'

set_option maxRecDepth 100000 in
set_option maxHeartbeats 4000000 in
theorem law4 (rd srr : Bool) (mr ton npi : Int) (s nm : ByteArray) (pid vp al : Int) (ho : Option Addr) (hb hoff hn hcap : Nat) (es : Nat → El) (ao : Option Addr) (b off len cap : Nat) (zs : List Int) (w : World)
    (hd : Hd w w.heap.size ho hb hoff hn es) (hr : Rd w w.heap.size ao b off len zs) (hz : ho = none → hn = 0 ∧ hcap = 0) (hz2 : ao = none → len = 0 ∧ cap = 0)
    (t0 : 0 ≤ ton) (t1 : ton ≤ 255) (n0 : 0 ≤ npi) (n1 : npi ≤ 255) (a0 : 0 ≤ al) (a1 : al ≤ 255) (v0 : -9223372036854775808 ≤ vp) (v1 : vp ≤ 9223372036854775807) :
    Calls Tryf.prog 4 #[.bool rd, .bool srr, .int .u8 mr, .int .u8 ton, .int .u8 npi, .string s, .string nm, .int .u8 pid, .int .i64 vp, .int .u8 al, .slice ho hn hcap, .slice ao len cap] w (Yes w) := by
  have HD := hide hd
  have HR := hide hr
  have HZ := hide hz
  have HZ2 := hide hz2
  clear hd hr hz hz2
  go_enter Tryf.func4, Tryf.ntmps4
  go_wp2_with fail
  refine (zz16_any rd srr mr ton npi pid vp al s nm ho hb hoff hn hcap es ao len cap w _ HD.out).mono ?_
  rintro e w1 ⟨bb, rfl, rfl, hbb⟩
  cases bb with
  | false =>
    go_wp2
    go_ret
    exact ⟨rfl, Below.refl _ _⟩
  | true =>
  obtain ⟨b1, b2, b3, b4, b5⟩ := hbb rfl
  have B5 := hide b5
  clear b5 hbb
  go_wp2_with fail
  refine (size_any s nm ho hb hoff hn hcap es ao len cap _ _ HD.out b1 b2 b3 b4 B5.out).mono ?_
  rintro e w2 ⟨bb, rfl, rfl, hbb⟩
  cases bb with
  | false =>
    go_wp2
    go_ret
    exact ⟨rfl, Below.refl _ _⟩
  | true =>
  obtain ⟨d1, d2, d3⟩ := hbb rfl
  have D3 := hide d3
  clear d3 hbb
  by_cases hvp : 0 < vp
  · go_wp2_with fail
    refine (toH_any ho hb hoff hn hcap es _ HD.out HZ.out b3).mono ?_
    rintro e w3 ⟨ho', hb', hcap', rfl, hd3, hbel3⟩
    have hsz3 := hbel3.size
    have hS1 : Sub ((w3.alloc (subObj rd srr mr ton npi s nm pid vp al ho' hn hcap' ao len cap)).alloc (subObj rd srr mr ton npi s nm pid 0 al ho' hn hcap' ao len cap)) _ w3.heap.size rd srr mr ton npi s nm pid vp al ho' hb' 0 hn hcap' es ao b off len cap zs :=
      sub_at rfl ((Below.refl _ _).alloc (by simp) _) hd3 ((HR.out.below hbel3).up hsz3) HZ2.out t0 t1 n0 n1 a0 a1 v0 v1 (by omega) (by have := D3.out; omega) (by omega) (by omega)
    have hS0 : Sub ((w3.alloc (subObj rd srr mr ton npi s nm pid vp al ho' hn hcap' ao len cap)).alloc (subObj rd srr mr ton npi s nm pid 0 al ho' hn hcap' ao len cap)) _ (w3.heap.size + 1) rd srr mr ton npi s nm pid 0 al ho' hb' 0 hn hcap' es ao b off len cap zs :=
      sub_at (w := w3.alloc (subObj rd srr mr ton npi s nm pid vp al ho' hn hcap' ao len cap)) (by simp) (Below.refl _ _) ((hd3.below ((Below.refl _ _).alloc (Nat.le_refl _) _)).up (by simp)) ((((HR.out.below hbel3).up hsz3).below ((Below.refl _ _).alloc (Nat.le_refl _) _)).up (by simp)) HZ2.out t0 t1 n0 n1 a0 a1 (by omega) (by omega) (by omega) (by have := D3.out; omega) (by omega) (by omega)
    have HS1 := hide hS1
    have HS0 := hide hS0
    have HB3 := hide hbel3
    clear hS1 hS0 hd3 hbel3
    go_wp2_with fail
    refine (marsh_any _ _ _ _ _ _ _ _ _ _ _ _ _ _ _ _ _ _ _ _ _ _ _ _ HS1.out).mono ?_
    intro e w4 hp1
    have hI := octets_ins rd srr mr ton npi s pid vp al hn (Pl.hdr (ids es) (dats es) hn) zs hvp
    rcases hp1 with ⟨hV, v, rfl, hown4, hbe4⟩ | ⟨hV, t, a, rfl, hbe4⟩
    · have HB4 : Hid (Below w.heap.size w w4) := ((HB3.out.alloc hsz3 _).alloc (by simp; omega) _).trans (hbe4.mono (by simp; omega))
      have HS0' : Hid (Sub w4 w4.heap.size (w3.heap.size + 1) rd srr mr ton npi s nm pid 0 al ho' hb' 0 hn hcap' es ao b off len cap zs) := (HS0.out.below hbe4).up hbe4.size
      have HO4 := hide (show OB w4 _ _ _ _ from hown4)
      have HV := hide hV
      have hsz4 := hbe4.size
      simp only [World.size_alloc] at hsz4
      clear hown4 hbe4 hV HS1 HS0
      go_wp2_with fail
      refine (marsh_any _ _ _ _ _ _ _ _ _ _ _ _ _ _ _ _ _ _ _ _ _ _ _ _ HS0'.out).mono ?_
      intro e w5 hp0
      rcases hp0 with ⟨-, v0', rfl, hown5, hbe5⟩ | ⟨hV, t, a, rfl, hbe5⟩
      · have HB5 : Hid (Below w.heap.size w w5) := HB4.out.trans (hbe5.mono HB4.out.size)
        have hol := octets_len rd srr mr ton npi s pid 0 al hn (Pl.hdr (ids es) (dats es) hn) zs
        have hv0 : (Pl.vpO 0).length = 0 := by unfold Pl.vpO; rw [if_neg (by omega)]; rfl
        obtain ⟨⟨-, -, -, hs20, -⟩, -, hD⟩ := HV.out
        have ho1 := HO4.out.below hbe5
        have ho0 : OB w5 _ _ _ _ := hown5
        generalize octets rd srr mr ton npi s pid 0 al hn (Pl.hdr (ids es) (dats es) hn) zs = L0 at *
        generalize octets rd srr mr ton npi s pid vp al hn (Pl.hdr (ids es) (dats es) hn) zs = L1 at *
        obtain ⟨i1, i2, i3, i4, i5, i6, i7⟩ := hI
        obtain ⟨g1, q1, rfl⟩ := own_shape ho1.out (by omega)
        obtain ⟨g0, q0, rfl⟩ := own_shape ho0.out (by omega)
        have hg1 := (ho1.lt _ rfl).2
        have hg0 := (ho0.lt _ rfl).2
        have C1 : Hid (∀ j, j < L1.length → w5.cell? ⟨g1, j, none⟩ = some (.int .u8 (L1.getD j 0))) := fun j hj => own_cell ho1.out j hj rfl
        have C0 : Hid (∀ j, j < L0.length → w5.cell? ⟨g0, j, none⟩ = some (.int .u8 (L0.getD j 0))) := fun j hj => own_cell ho0.out j hj rfl
        have I5 := hide i5
        have I7 := hide i7
        have hN : L0.length ≤ 200 := by omega
        have k1 := C1.out 0 (by omega)
        have k0 := C0.out 0 (by omega)
        have kp := C1.out (6 + (s.size + 1) / 2) (by omega)
        rw [i6] at kp
        clear i5 i7 hol hv0 hD ho1 ho0 hown5 hbe5 HO4 HV i6
        generalize L0.getD 0 0 = x0 at i3 i4 k0
        generalize L1.getD 0 0 = x1 at i4 k1
        generalize hNe : L0.length = N at *
        rw [i1] at C1 ⊢
        have HI1 := hide i1
        have HNe := hide hNe
        clear i1 hNe
        have hrv := Pl.rvp_bd vp hvp
        go_wp2
        go_quiet (fail)
        go_wp2
        go_quiet (fail)
        go_wp2
        go_loopw [33] (fun i wr => ∃ k : Nat, 1 ≤ k ∧ k ≤ 6 + (s.size + 1) / 2 ∧ i = .int .i64 k ∧ Below w5.heap.size w5 wr) (fun i _ => 6 + (s.size + 1) / 2 - (intOf i).toNat)
        case atStart => exact ⟨1, Nat.le_refl _, by omega, rfl, by repeat (first | exact Below.refl _ _ | refine below_drewN ?_ _)⟩
        case round =>
          obtain ⟨k, hk1, hk2, rfl, hbw⟩ := hrel
          by_cases hlt : k < 6 + (s.size + 1) / 2
          · have y1 := (hbw.cell (by exact hg1)).trans (C1.out k (by omega))
            have y0 := (hbw.cell (by exact hg0)).trans (C0.out k (by omega))
            rw [I5.out k hk1 hlt] at y1
            generalize L0.getD k 0 = y at y0 y1
            go_wp2
            go_quiet (fail)
            go_wp2
            go_roundw
            case rel => exact ⟨k + 1, by omega, by omega, by go_num, below_drewN hbw _⟩
            case measure => simp [intOf]; omega
          · obtain rfl : k = 6 + (s.size + 1) / 2 := by omega
            have yp := (hbw.cell (by exact hg1)).trans kp
            go_wp2_with fail
            refine (least_any vp _ hvp v1).mono ?_
            rintro e w6 ⟨rfl, rfl⟩
            go_wp2
            go_loopw [34] (fun i wr => ∃ k : Nat, 6 + (s.size + 1) / 2 ≤ k ∧ k ≤ N ∧ i = .int .i64 k ∧ Below w5.heap.size w5 wr) (fun i _ => N - (intOf i).toNat)
            case atStart => exact ⟨6 + (s.size + 1) / 2, Nat.le_refl _, by omega, by go_num, hbw⟩
            case round =>
              clear hbw yp
              obtain ⟨k, hk1, hk2, rfl, hbw⟩ := hrel
              by_cases hlt : k < N
              · have y1 := (hbw.cell (by exact hg1)).trans (C1.out (k + 1) (by omega))
                have y0 := (hbw.cell (by exact hg0)).trans (C0.out k (by omega))
                rw [I7.out k hk1 hlt] at y1
                generalize L0.getD k 0 = y at y0 y1
                go_wp2
                go_quiet (fail)
                go_wp2
                go_roundw
                case rel => exact ⟨k + 1, by omega, by omega, by go_num, below_drewN hbw _⟩
                case measure => simp [intOf]; omega
              · go_wp2
                go_ret
                exact ⟨rfl, HB5.out.trans (hbw.mono HB5.out.size)⟩
      · exact absurd HV.out hV
    · have HB4 : Hid (Below w.heap.size w w4) := ((HB3.out.alloc hsz3 _).alloc (by simp; omega) _).trans (hbe4.mono (by simp; omega))
      have HS0' : Hid (Sub w4 w4.heap.size (w3.heap.size + 1) rd srr mr ton npi s nm pid 0 al ho' hb' 0 hn hcap' es ao b off len cap zs) := (HS0.out.below hbe4).up hbe4.size
      have HV := hide hV
      have hsz4 := hbe4.size
      simp only [World.size_alloc] at hsz4
      clear hbe4 hV HS1 HS0 hI
      go_wp2_with fail
      refine (marsh_any _ _ _ _ _ _ _ _ _ _ _ _ _ _ _ _ _ _ _ _ _ _ _ _ HS0'.out).mono ?_
      intro e w5 hp0
      rcases hp0 with ⟨hV, v0', rfl, hown5, hbe5⟩ | ⟨hV, t', a', rfl, hbe5⟩
      · exact absurd hV HV.out
      · have HB5 : Hid (Below w.heap.size w w5) := HB4.out.trans (hbe5.mono HB4.out.size)
        clear hbe5 hV
        go_wp2
        go_quiet (fail)
        go_wp2
        go_ret
        exact ⟨rfl, below_drewN HB5.out _⟩
  · have hvp' : vp ≤ 0 := by omega
    go_wp2
    go_ret
    exact ⟨rfl, Below.refl _ _⟩
end Go.Proofs.Qxb6613194aFmt
