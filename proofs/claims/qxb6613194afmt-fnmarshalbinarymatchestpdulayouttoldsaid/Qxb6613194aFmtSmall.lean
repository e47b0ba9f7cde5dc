import Derived.Test.Qxb6613194aFmtMarsh
import Derived.Lib.Slices
namespace Go.Proofs.Qxb6613194aFmt
open Go.RowKit

set_option maxHeartbeats 800000 in
theorem least_any (d : Int) (w : World) (h0 : 0 < d) (h1 : d ≤ 9223372036854775807) :
    Calls Tryf.prog 14 #[.int .i64 d, .int .u8 (Pl.rvp d)] w fun e w' => e = .returned (.bool true) ∧ w' = w := by
  have hb := Pl.rvp_bd d h0
  by_cases hbig : 38102400000000000 < d
  · rw [Pl.rvp_big d hbig]
    go_enter Tryf.func14, Tryf.ntmps14
    go_wp2
    go_ret
    exact ⟨rfl, rfl⟩
  · have h2 := Pl.vpP_rvp d h0 (by omega)
    have h3 := Pl.vpP_rvp_pred d h0 (by omega)
    generalize Pl.rvp d = v at *
    by_cases hv : v = 0
    · subst hv
      clear h3
      go_enter Tryf.func14, Tryf.ntmps14
      go_wp2_with fail
      refine (vpP_any _ _ (by omega) (by omega)).mono ?_
      rintro e w' ⟨rfl, rfl⟩
      go_wp2
      go_ret
      exact ⟨rfl, rfl⟩
    · have hv' : (v == 0) = false := by simpa using hv
      have h4 := h3 hv
      clear h3
      go_enter Tryf.func14, Tryf.ntmps14
      go_wp2_with fail
      refine (vpP_any _ _ (by omega) (by omega)).mono ?_
      rintro e w' ⟨rfl, rfl⟩
      go_wp2_with fail
      refine (vpP_any _ _ (by omega) (by omega)).mono ?_
      rintro e w2 ⟨rfl, rfl⟩
      go_wp2
      go_ret
      exact ⟨rfl, rfl⟩

/-- What the bound laid by program says. -/
def ZPost (s nm : ByteArray) (hn len : Nat) (es : Nat → El) (w : World) (e : Ending) (w' : World) : Prop :=
  ∃ b, e = .returned (.bool b) ∧ w = w' ∧ (b = true → s.size ≤ 1048576 ∧ nm.size ≤ 1048576 ∧ hn ≤ 1048576 ∧ len ≤ 1048576 ∧ ∀ i, i < hn → (es i).len ≤ 1048576)

set_option maxHeartbeats 800000 in
theorem zz16_any (rd srr : Bool) (mr ton npi pid vp al : Int) (s nm : ByteArray) (ho : Option Addr) (hb hoff hn hcap : Nat) (es : Nat → El) (ao : Option Addr) (len cap : Nat) (w : World) (B : Nat)
    (hd : Hd w B ho hb hoff hn es) :
    Calls Tryf.prog 16 #[.bool rd, .bool srr, .int .u8 mr, .int .u8 ton, .int .u8 npi, .string s, .string nm, .int .u8 pid, .int .i64 vp, .int .u8 al, .slice ho hn hcap, .slice ao len cap] w (ZPost s nm hn len es w) := by
  have HD := hide hd
  clear hd
  go_enter Tryf.func16, Tryf.ntmps16
  go_wp2
  all_goals try (go_ret; exact ⟨false, rfl, rfl, fun h => by cases h⟩)
  go_loop [25, 26] (fun z i => ∃ (k : Nat) (q : Int), k ≤ hn ∧ i = .int .i64 k ∧ z = .int .i64 q ∧ 0 ≤ q ∧ q ≤ 1048576 ∧ Hid (∀ i, i < k → (es i).len ≤ 1048576)) (fun _ i => hn - (intOf i).toNat)
  case atStart => exact ⟨0, _, Nat.zero_le _, rfl, rfl, by omega, by omega, fun i h => absurd h (Nat.not_lt_zero _)⟩
  case round =>
    obtain ⟨k, q, hk, rfl, rfl, hq0, hq1, hall⟩ := hrel
    by_cases hlt : k < hn
    · obtain rfl := HD.out.at_ (by omega)
      have hc := HD.out.data k hlt
      go_wp2
      all_goals first
        | (go_ret; exact ⟨false, rfl, rfl, fun h => by cases h⟩)
        | (go_round
           case rel =>
             refine ⟨k + 1, _, by omega, by go_num, rfl, by omega, by omega, fun i hi => ?_⟩
             rcases Nat.lt_or_ge i k with h' | h'
             · exact hall.out i h'
             · obtain rfl : i = k := by omega
               omega
           case measure => simp [intOf]; omega)
    · obtain rfl : k = hn := by omega
      go_wp2
      all_goals first
        | (go_ret; exact ⟨false, rfl, rfl, fun h => by cases h⟩)
        | (go_ret; exact ⟨true, rfl, rfl, fun _ => ⟨by omega, by omega, by omega, by omega, hall.out⟩⟩)

/-- What sizeOK's yes says. -/
def SizePost (s nm : ByteArray) (hn len : Nat) (es : Nat → El) (w : World) (e : Ending) (w' : World) : Prop :=
  ∃ b, e = .returned (.bool b) ∧ w = w' ∧ (b = true → s.size + nm.size + len ≤ 1048576 ∧ hn ≤ 1048576 ∧ (Pl.hdrTo (ids es) (dats es) hn).length ≤ 1048576)

set_option maxHeartbeats 800000 in
theorem size_any (s nm : ByteArray) (ho : Option Addr) (hb hoff hn hcap : Nat) (es : Nat → El) (ao : Option Addr) (len cap : Nat) (w : World) (B : Nat)
    (hd : Hd w B ho hb hoff hn es) (hb1 : s.size ≤ 1048576) (hb2 : nm.size ≤ 1048576) (hb3 : hn ≤ 1048576) (hb4 : len ≤ 1048576) (hb5 : ∀ i, i < hn → (es i).len ≤ 1048576) :
    Calls Tryf.prog 7 #[.string s, .string nm, .slice ho hn hcap, .slice ao len cap] w (SizePost s nm hn len es w) := by
  have HD := hide hd
  have H5 := hide hb5
  clear hd hb5
  go_enter Tryf.func7, Tryf.ntmps7
  go_wp2
  all_goals try (go_ret; exact ⟨false, rfl, rfl, fun h => by cases h⟩)
  go_loop [9, 10] (fun z i => ∃ (k : Nat) (q : Int), k ≤ hn ∧ i = .int .i64 k ∧ z = .int .i64 q ∧ 0 ≤ q ∧ q ≤ 1048576 ∧ Hid (((Pl.hdrTo (ids es) (dats es) k).length : Int) ≤ q)) (fun _ i => hn - (intOf i).toNat)
  case atStart => exact ⟨0, _, Nat.zero_le _, rfl, rfl, by omega, by omega, by show ((0 : Nat) : Int) ≤ _; omega⟩
  case round =>
    obtain ⟨k, q, hk, rfl, rfl, hq0, hq1, hall⟩ := hrel
    by_cases hlt : k < hn
    · obtain rfl := HD.out.at_ (by omega)
      have hc := HD.out.data k hlt
      have h5 := H5.out k hlt
      have HL : Hid ((Pl.hdrTo (ids es) (dats es) (k + 1)).length = (Pl.hdrTo (ids es) (dats es) k).length + 2 + (es k).len) := by
        have := (HD.out.rd k hlt).len_
        show (Pl.hdrTo (ids es) (dats es) k ++ [_, _] ++ dats es k).length = _
        simp [dats, this]; omega
      go_wp2
      all_goals first
        | (go_ret; exact ⟨false, rfl, rfl, fun h => by cases h⟩)
        | (go_round
           case rel =>
             refine ⟨k + 1, _, by omega, by go_num, rfl, by omega, by omega, ?_⟩
             have h1 := hall.out
             have h2 := HL.out
             show ((Pl.hdrTo (ids es) (dats es) (k + 1)).length : Int) ≤ _
             omega
           case measure => simp [intOf]; omega)
    · obtain rfl : k = hn := by omega
      go_wp2
      go_ret
      refine ⟨true, rfl, rfl, fun _ => ⟨by omega, by omega, ?_⟩⟩
      have h1 := hall.out
      omega
end Go.Proofs.Qxb6613194aFmt
