import Derived.Test.Qxb6613194aFmtSmall
namespace Go.Proofs.Qxb6613194aFmt
open Go.RowKit

theorem hdr_length (es : Nat → El) (hn : Nat) (h : 0 < hn) : (Pl.hdr (ids es) (dats es) hn).length = (Pl.hdrTo (ids es) (dats es) hn).length + 1 := by
  unfold Pl.hdr
  rw [if_neg (by omega)]
  simp

set_option maxHeartbeats 400000 in
theorem hdrOct_any (ho : Option Addr) (hb hoff hn hcap : Nat) (es : Nat → El) (w : World) (B : Nat) (hd : Hd w B ho hb hoff hn es) (h1 : hn ≤ 1048576) (h2 : (Pl.hdrTo (ids es) (dats es) hn).length ≤ 1048576) :
    Calls Tryf.prog 10 #[.slice ho hn hcap] w fun e w' => e = .returned (.int .i64 ((Pl.hdr (ids es) (dats es) hn).length : Nat)) ∧ w' = w := by
  have HD := hide hd
  clear hd
  by_cases hp : 0 < hn
  · have hne : ((hn : Int) == 0) = false := by simp; omega
    have hhl := hdr_length es hn hp
    obtain rfl := HD.out.at_ hp
    have HHL := hide hhl
    clear hhl
    go_enter Tryf.func10, Tryf.ntmps10
    go_wp2
    go_loop [3, 4] (fun z i => ∃ k : Nat, k ≤ hn ∧ i = .int .i64 k ∧ z = .int .i64 ((Pl.hdrTo (ids es) (dats es) k).length + 1 : Nat)) (fun _ i => hn - (intOf i).toNat)
    case atStart => exact ⟨0, Nat.zero_le _, rfl, rfl⟩
    case round =>
      obtain ⟨k, hk, rfl, rfl⟩ := hrel
      by_cases hlt : k < hn
      · have hc := HD.out.data k hlt
        have hkl := Pl.hdrTo_len (ids es) (dats es) k hn hlt
        have hzl := (HD.out.rd k hlt).len_
        have hez : (dats es k).length = (es k).zs.length := rfl
        have HL : Hid ((Pl.hdrTo (ids es) (dats es) (k + 1)).length = (Pl.hdrTo (ids es) (dats es) k).length + 2 + (es k).len) := by
          show (Pl.hdrTo (ids es) (dats es) k ++ [_, _] ++ dats es k).length = _
          simp [dats, hzl]; omega
        have hel : (es k).len ≤ 1048576 := by omega
        have hkl2 : (Pl.hdrTo (ids es) (dats es) k).length ≤ 1048576 := by omega
        clear hkl hez hzl
        go_wp2
        go_round
        case rel => exact ⟨k + 1, by omega, by go_num, by rw [HL.out]; go_num⟩
        case measure => simp [intOf]; omega
      · obtain rfl : k = hn := by omega
        go_wp2
        go_ret
        exact ⟨ret_int (by have := HHL.out; omega), rfl⟩
  · obtain rfl : hn = 0 := by omega
    go_enter Tryf.func10, Tryf.ntmps10
    go_wp2
    go_ret
    exact ⟨rfl, rfl⟩

set_option maxHeartbeats 400000 in
theorem ceil_any (a b : Int) (w : World) (h0 : 0 ≤ a) (h1 : a ≤ 1000000000) (h2 : 0 < b) (h3 : b ≤ 100) :
    Calls Tryf.prog 23 #[.int .i64 a, .int .i64 b] w fun e w' => e = .returned (.int .i64 ((a + b - 1) / b)) ∧ w' = w := by
  go_enter Tryf.func23, Tryf.ntmps23
  go_wp2
  go_ret
  exact ⟨rfl, rfl⟩

/-- How many octets TP-UD takes. -/
def udO (al : Int) (h t : Nat) : Nat := if al = 2 then h + t else (7 * ((8 * h + 6) / 7 + t) + 7) / 8

theorem udO_eq (al : Int) (h zs : List Int) (hal : al = 0 ∨ al = 2) : udO al h.length zs.length = (Pl.udData al h zs).length := by
  have hf := Pl.fill_le h.length
  unfold udO Pl.udData
  rcases hal with rfl | rfl
  · rw [if_neg (by decide), if_pos rfl, List.length_append, Pl.packed_len]
    unfold Pl.hs at hf
    omega
  · rw [if_pos rfl, if_neg (by decide), List.length_append]

set_option maxHeartbeats 400000 in
theorem udOct_any (al : Int) (h t : Nat) (w : World) (h1 : h ≤ 2000000) (h2 : t ≤ 2000000) :
    Calls Tryf.prog 11 #[.int .u8 al, .int .i64 h, .int .i64 t] w fun e w' => e = .returned (.int .i64 (udO al h t : Nat)) ∧ w' = w := by
  by_cases hal : al = 2
  · subst hal
    go_enter Tryf.func11, Tryf.ntmps11
    go_wp2
    go_ret
    exact ⟨rfl, rfl⟩
  · have hal' : (al == 2) = false := by simpa using hal
    have HO : Hid (udO al h t = (7 * ((8 * h + 6) / 7 + t) + 7) / 8) := by show udO al h t = _; unfold udO; rw [if_neg hal]
    go_enter Tryf.func11, Tryf.ntmps11
    go_wp2_with fail
    refine (ceil_any _ _ _ (by omega) (by omega) (by omega) (by omega)).mono ?_
    rintro e w' ⟨rfl, rfl⟩
    go_wp2_with fail
    refine (ceil_any _ _ _ (by omega) (by omega) (by omega) (by omega)).mono ?_
    rintro e w2 ⟨rfl, rfl⟩
    go_wp2
    go_ret
    refine ⟨ret_int ?_, rfl⟩
    rw [HO.out]
    omega

set_option maxHeartbeats 800000 in
theorem zz17_any (al : Int) (ho : Option Addr) (hb hoff hn hcap : Nat) (es : Nat → El) (ao : Option Addr) (len cap : Nat) (w : World) (B : Nat)
    (hd : Hd w B ho hb hoff hn es) :
    Calls Tryf.prog 17 #[.int .u8 al, .slice ho hn hcap, .slice ao len cap] w (ZPost ⟨#[]⟩ ⟨#[]⟩ hn len es w) := by
  have HD := hide hd
  clear hd
  go_enter Tryf.func17, Tryf.ntmps17
  go_wp2
  all_goals try (go_ret; exact ⟨false, rfl, rfl, fun h => by cases h⟩)
  go_loop [7, 8] (fun z i => ∃ (k : Nat) (q : Int), k ≤ hn ∧ i = .int .i64 k ∧ z = .int .i64 q ∧ 0 ≤ q ∧ q ≤ 1048576 ∧ Hid (∀ i, i < k → (es i).len ≤ 1048576)) (fun _ i => hn - (intOf i).toNat)
  case atStart => exact ⟨0, _, Nat.zero_le _, rfl, rfl, by omega, by omega, fun i h => absurd h (Nat.not_lt_zero _)⟩
  case round =>
    obtain ⟨k, q, hk, rfl, rfl, hq0, hq1, hall⟩ := hrel
    by_cases hlt : k < hn
    · obtain rfl := HD.out.at_ (by omega)
      have hc := HD.out.data k hlt
      go_wp2
      all_goals first
        | (go_ret; exact ⟨false, rfl, rfl, fun h => by cases h⟩)
        | (go_round
           case rel =>
             refine ⟨k + 1, _, by omega, by go_num, rfl, by omega, by omega, fun i hi => ?_⟩
             rcases Nat.lt_or_ge i k with h' | h'
             · exact hall.out i h'
             · obtain rfl : i = k := by omega
               omega
           case measure => simp [intOf]; omega)
    · obtain rfl : k = hn := by omega
      go_wp2
      all_goals first
        | (go_ret; exact ⟨false, rfl, rfl, fun h => by cases h⟩)
        | (go_ret; exact ⟨true, rfl, rfl, fun _ => ⟨Nat.zero_le _, Nat.zero_le _, by omega, by omega, hall.out⟩⟩)

set_option maxHeartbeats 400000 in
theorem zzdcs_any (p o : Nat) (al : Int) (w : World) (hc : w.cell? ⟨p, o, none⟩ = some (.int .u8 al)) :
    Calls Tryf.prog 18 #[.pointer (some ⟨p, o, none⟩)] w fun e w' => e = .returned (.int .u8 (al * 4 % 256)) ∧ w' = w := by
  go_enter Tryf.func18, Tryf.ntmps18
  go_wp2_with fail
  refine (dcs_any p o al _ hc).mono ?_
  rintro e w' ⟨rfl, rfl⟩
  go_wp2
  go_ret
  exact ⟨rfl, rfl⟩
end Go.Proofs.Qxb6613194aFmt
