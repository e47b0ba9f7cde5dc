import Derived.Test.Qxb6613194aFmtApp
import Derived.Test.Qxb6613194aFmtUdPl
import Derived.Deep.DeepCutAuto
import Derived.Deep.CutBlock
namespace Go.Proofs.Qxb6613194aFmt
open Go.RowKit Go.Extern.Stop Go.Stop Go.Extern
attribute [local go_sem] call30 fguard fmtG fmtH op3_100 ptr71 elem71 isError71

theorem op30_any (name : String) (x : Int) : ∃ sh : List UInt8, ∀ w : World, (FmtStop.operand name true 100 false (.iface 30 (.int .u8 x))).run Tryf.prog w = .ok (sh, Go.Extern.Stop.digits 8 (x % 2 ^ 64).toNat) w :=
  ⟨[6, 16, 0, 0, 0, 0, 0, 0, 0, 115, 109, 115, 116, 101, 120, 116, 46, 65, 108, 112, 104, 97, 98, 101, 116], fun w => by kernel_rfl⟩

set_option maxHeartbeats 400000 in
theorem dcs_any (p o : Nat) (al : Int) (w : World) (hc : w.cell? ⟨p, o, none⟩ = some (.int .u8 al)) :
    Calls Tryf.prog 20 #[.pointer (some ⟨p, o, none⟩)] w fun e w' => e = .returned (.int .u8 (al * 4 % 256)) ∧ w' = w := by
  go_enter Tryf.func20, Tryf.ntmps20
  go_wp2
  go_ret
  exact ⟨rfl, rfl⟩

/-- One information element as it lies in memory. -/
structure El where
  id : Int
  ao : Option Addr
  b : Nat
  off : Nat
  len : Nat
  cap : Nat
  zs : List Int

/-- A slice of information elements that can be read. -/
structure Hd (w : World) (B : Nat) (ho : Option Addr) (hb hoff hn : Nat) (es : Nat → El) : Prop where
  at_ : 0 < hn → ho = some ⟨hb, hoff, none⟩
  lt : 0 < hn → hb < B
  id : ∀ i, i < hn → w.cell? ⟨hb, hoff + i * 2, none⟩ = some (.int .u8 (es i).id)
  data : ∀ i, i < hn → w.cell? ⟨hb, hoff + i * 2 + 1, none⟩ = some (.slice (es i).ao (es i).len (es i).cap)
  rd : ∀ i, i < hn → Rd w B (es i).ao (es i).b (es i).off (es i).len (es i).zs
  bd : ∀ i, i < hn → 0 ≤ (es i).id ∧ (es i).id ≤ 255
  nil : ∀ i, i < hn → (es i).ao = none → (es i).len = 0 ∧ (es i).cap = 0

theorem Hd.below {w w' : World} {B : Nat} {ho : Option Addr} {hb hoff hn : Nat} {es : Nat → El} (h : Hd w B ho hb hoff hn es) (hbl : Below B w w') : Hd w' B ho hb hoff hn es :=
  ⟨h.at_, h.lt, fun i hi => (hbl.cell (h.lt (by omega))).trans (h.id i hi), fun i hi => (hbl.cell (h.lt (by omega))).trans (h.data i hi), fun i hi => (h.rd i hi).below hbl, h.bd, h.nil⟩

def ids (es : Nat → El) (i : Nat) : Int := (es i).id
def dats (es : Nat → El) (i : Nat) : List Int := (es i).zs

/-- The user data's three fields behind a pointer. -/
structure Ud (w : World) (B p o : Nat) (al : Int) (ho : Option Addr) (hb hoff hn hcap : Nat) (es : Nat → El) (ao : Option Addr) (b off len cap : Nat) (zs : List Int) : Prop where
  lt : p < B
  al_ : w.cell? ⟨p, o, none⟩ = some (.int .u8 al)
  al0 : 0 ≤ al
  al1 : al ≤ 255
  head : w.cell? ⟨p, o + 1, none⟩ = some (.slice ho hn hcap)
  text : w.cell? ⟨p, o + 2, none⟩ = some (.slice ao len cap)
  hd : Hd w B ho hb hoff hn es
  rd : Rd w B ao b off len zs
  hmax : (Pl.hdrTo (ids es) (dats es) hn).length ≤ 2000000
  nmax : hn ≤ 2000000
  lmax : len ≤ 2000000
  nil : ao = none → len = 0 ∧ cap = 0

theorem Rd.up {w : World} {B B' : Nat} {ao : Option Addr} {b off len : Nat} {zs : List Int} (h : Rd w B ao b off len zs) (hB : B ≤ B') : Rd w B' ao b off len zs :=
  ⟨h.at_, fun hl => Nat.lt_of_lt_of_le (h.lt hl) hB, h.len_, h.cell, h.bd⟩

/-- What UserData.appendTo does. -/
def UdPost (base n : Nat) (xs : List Int) (al : Int) (h : List Int) (zs : List Int) (w : World) (e : Ending) (w' : World) : Prop :=
  if (al = 0 ∨ al = 2) ∧ (Pl.udData al h zs).length ≤ 140 then Good base (n + 1 + (Pl.udData al h zs).length) (xs ++ [(Pl.udLen al h zs : Int) % 256] ++ Pl.udData al h zs) w e w'
  else Bad (.slice none 0 0) w.heap.size w e w'

set_option maxRecDepth 100000 in
set_option maxHeartbeats 800000 in
theorem ud_any (base p o : Nat) (al : Int) (ho : Option Addr) (hb hoff hn hcap : Nat) (es : Nat → El) (ao : Option Addr) (b off len cap : Nat) (zs : List Int) (v : Value) (n : Nat) (xs : List Int) (w : World)
    (hu : Ud w w.heap.size p o al ho hb hoff hn hcap es ao b off len cap zs) (hbase : base ≤ w.heap.size) (hn2 : n ≤ 1000) (hown : OB w base v n xs) :
    Calls Tryf.prog 22 #[.pointer (some ⟨p, o, none⟩), v] w (UdPost base n xs al (Pl.hdr (ids es) (dats es) hn) zs w) := by
  have HU := hide hu
  have c0 := hu.al_
  have c1 := hu.head
  have c2 := hu.text
  have hnm := hu.nmax
  have hlm := hu.lmax
  have hmx0 := hu.hmax
  clear hu
  have HO := hide hown
  clear hown
  obtain ⟨h, hh⟩ : ∃ h, h = Pl.hdr (ids es) (dats es) hn := ⟨_, rfl⟩
  have hhl : h.length ≤ 2000001 := by rw [hh]; exact Nat.le_trans (Pl.hdr_len _ _ _) (by have := hmx0; omega)
  rw [← hh]
  have HHd := hide hh
  clear hh hmx0
  go_enter Tryf.func22, Tryf.ntmps22
  go_upto_if 16 with fail
  go_cut [6] (fun s6 wx => OB wx w.heap.size s6 h.length h ∧ Below w.heap.size w wx)
  case first =>
    by_cases hpos : 0 < hn
    · obtain rfl := HU.out.hd.at_ hpos
      go_wp2_with (at_builtin; refine app_bytes _ rfl (.tmp 17) (.tmp 18) rfl w.heap.size _ 0 [] rfl (OB.nil _ _) (some ⟨w.heap.size, 0, none⟩) 1 1 [0] rfl rfl (fun h => by cases h) (new_src w [0] rfl) (by omega) (by simp) ?_)
      intro v1 w1 ho1 hg1
      have HB1 : Hid (Below w.heap.size w w1) := ((Below.refl _ w).alloc (Nat.le_refl _) _).grown hg1 (by simp) (fun k h => by cases h)
      have H1 := hide ho1
      clear ho1 hg1
      have d1 : w1.cell? ⟨p, o + 1, none⟩ = some (.slice (some ⟨hb, hoff, none⟩) hn hcap) := (HB1.out.cell HU.out.lt).trans c1
      go_wp2
      go_loopw [6, 25] (fun s6 s25 wr => ∃ k : Nat, k ≤ hn ∧ s25 = .int .i64 k ∧ OB wr w.heap.size s6 (1 + (Pl.hdrTo (ids es) (dats es) k).length) (0 :: Pl.hdrTo (ids es) (dats es) k) ∧ Below w.heap.size w wr)
         (fun _ i _ => hn - (intOf i).toNat)
      case atStart => exact ⟨0, Nat.zero_le _, rfl, H1.out.cast rfl rfl, HB1.out⟩
      case round =>
        obtain ⟨k, hk, rfl, hown, hbel⟩ := hrel
        by_cases hlt : k < hn
        · have hHd := HU.out.hd.below hbel
          have hid := hHd.id k hlt
          have hda := hHd.data k hlt
          have HRd := hide (hHd.rd k hlt)
          have HNil := hide (hHd.nil k hlt)
          have hidb := hHd.bd k hlt
          have hzl := (hHd.rd k hlt).len_
          have hlen := Pl.hdrTo_len (ids es) (dats es) k hn hlt
          have hmx := HU.out.hmax
          have hez : (dats es k).length = (es k).zs.length := rfl
          have HS : Hid (Pl.hdrTo (ids es) (dats es) (k + 1) = Pl.hdrTo (ids es) (dats es) k ++ [(es k).id, ((es k).zs.length : Int) % 256] ++ (es k).zs) := rfl
          have hblt : hb < wr.heap.size := Nat.lt_of_lt_of_le (HU.out.hd.lt hpos) hbel.size
          clear hHd
          rw [hez] at hlen
          clear hez
          generalize es k = E at *
          obtain ⟨eid, eao, eb, eoff, elen, ecap, ezs⟩ := E
          simp only at hid hda HRd HNil hidb hzl hlen HS
          have HZ := hide hzl
          have HO2 := hide hown
          have HB2 := hide hbel
          have HL2 := hide hlen
          have hel : elen ≤ 2000000 := by omega
          have hkl : (Pl.hdrTo (ids es) (dats es) k).length ≤ 2000000 := by omega
          clear hzl hown hbel hlen hmx
          go_wp2_with (at_builtin; go_must (refine app_bytes _ rfl (.tmp 29) (.tmp 36) rfl w.heap.size _ _ _ rfl ((HO2.out.alloc _).alloc _) (some ⟨wr.heap.size + 1, 0, none⟩) 2 2 [eid, (elen : Int) % 256] rfl rfl (fun h => by cases h) (new_src (wr.alloc (.cells #[.int .u8 eid, .slice eao elen ecap] 55)) [eid, (elen : Int) % 256] (by simp)) (by omega) ?q1 ?_))
          case q1 => have := HB2.out.size; simp; omega
          intro v2 w2 ho2 hg2
          have hne : ∀ g, g = wr.heap.size ∨ g < w.heap.size → some g ≠ Value.ownBlock _ := fun g hg h => by have := HO2.out.lt _ h.symm; omega
          have hsz2 := hg2.size
          simp only [World.size_alloc] at hsz2
          have hB2 := HB2.out.size
          have e0 : w2.cell? ⟨wr.heap.size, 0, none⟩ = some (.int .u8 eid) := hg2.cell (by go_simp) (hne _ (Or.inl rfl))
          have e1 : w2.cell? ⟨wr.heap.size, 1, none⟩ = some (.slice eao elen ecap) := hg2.cell (by go_simp) (hne _ (Or.inl rfl))
          have HB3 : Hid (Below w.heap.size w w2) := ((HB2.out.alloc HB2.out.size _).alloc (by simp; omega) _).grown hg2 (by simp; omega) (fun k hk => (HO2.out.lt _ hk).1)
          have HRd2 : Hid (Rd w2 w.heap.size eao eb eoff elen ezs) := HRd.out.below (((Below.refl _ _).alloc HB2.out.size _).alloc (by simp; omega) _ |>.grown hg2 (by simp; omega) (fun k hk => (HO2.out.lt _ hk).1))
          have HO3 := hide ho2
          clear ho2 hg2 hne
          go_wp2_with (at_builtin; go_must (refine app_bytes _ rfl (.tmp 38) (.tmp 40) rfl w.heap.size _ _ _ rfl HO3.out eao elen ecap ezs rfl HZ.out HNil.out HRd2.out.src (by omega) (by omega) ?_))
          intro v3 w3 ho3 hg3
          have HO4 := hide ho3
          have HB4 : Hid (Below w.heap.size w w3) := HB3.out.grown hg3 (by omega) (fun k hk => (HO3.out.lt _ hk).1)
          clear ho3 hg3
          go_wp2
          go_roundw
          case rel =>
            refine ⟨k + 1, by omega, by go_num, ?_, HB4.out⟩
            have hz := HZ.out
            refine HO4.out.cast ?_ ?_
            · rw [HS.out]; simp [hz]; omega
            · rw [HS.out, hz]; simp
          case measure => simp [intOf]; omega
        · have hk' : k = hn := by omega
          subst hk'
          obtain ⟨g, cp, rfl⟩ := own_shape hown.out (by omega)
          have hc0 := own_cell hown.out 0 (by omega) rfl
          have hf0 := hown.out.frozenAt 0
          have hmx := HU.out.hmax
          have HO2 := hide hown
          have HB2 := hide hbel
          clear hown hbel
          have HH : Hid (Pl.hdr (ids es) (dats es) k = (((Pl.hdrTo (ids es) (dats es) k).length : Int) % 256) :: Pl.hdrTo (ids es) (dats es) k) := by
            show Pl.hdr _ _ _ = _
            unfold Pl.hdr
            rw [if_neg (by omega)]
          go_wp2
          go_meet
          rw [HHd.out, HH.out]
          refine ⟨OB.cast (own_set HO2.out.out 0 _ rfl) ?_ ?_, HB2.out.setCell (HO2.out.lt _ rfl).1 _⟩
          · simp; omega
          · simp only [List.set_cons_zero]
            congr 1
            omega
    · go_wp2
      go_meet
      obtain rfl : hn = 0 := by omega
      rw [HHd.out]
      exact ⟨OB.nil _ _, Below.refl _ _⟩
  case rest =>
    obtain ⟨hown, hbel⟩ := hcut
    obtain ⟨ao6, c6, rfl, hn6, hs6⟩ := hown.form
    have f0 : wc.cell? ⟨p, o, none⟩ = some (.int .u8 al) := (hbel.cell HU.out.lt).trans c0
    have f2 : wc.cell? ⟨p, o + 2, none⟩ = some (.slice ao len cap) := (hbel.cell HU.out.lt).trans c2
    have HRd := hide (HU.out.rd.below hbel)
    have HO2 := hide hown
    have HB2 := hide hbel
    clear hown hbel hn6 hs6
    go_upto_block 2 with fail
    go_cut [6, 9] (fun s6 s9 wx => (al = 0 ∨ al = 2) ∧ OB wx w.heap.size s6 (Pl.udData al h zs).length (Pl.udData al h zs) ∧ s9 = .int .i64 (Pl.udLen al h zs) ∧ Below w.heap.size w wx)
    case first =>
      by_cases hal0 : al = 0
      · subst hal0
        go_wp2_with fail
        refine (hseptets_any _ _ (by omega) (by omega)).mono ?_
        rintro e w' ⟨rfl, rfl⟩
        go_wp2_with fail
        have hfill : ((h.length : Int) * 8 + 6) / 7 * 7 - (h.length : Int) * 8 = ((Pl.fillOf h.length : Nat) : Int) := by
          have := (Pl.fill_le h.length).2
          unfold Pl.hs at this
          omega
        rw [hfill]
        refine (pack_any ao b off len cap (Pl.fillOf h.length) zs _ (Pl.fill_le _).1 hlm (HRd.out.up (HB2.out.size))).mono ?_
        rintro e w2 ⟨rfl, hown2, hbe2⟩
        have HO3 := hide (HO2.out.below hbe2)
        have hpl := Pl.packed_len h.length (nats zs) len
        have HP := hide (show OB w2 w'.heap.size _ _ (Pl.packed h.length (nats zs) len) from hown2)
        have hsz2 := hbe2.size
        have hszw := HB2.out.size
        have HB3 : Hid (Below w.heap.size w w2) := HB2.out.trans (hbe2.mono hszw)
        clear hown2 hbe2
        generalize hM : (Pl.fillOf h.length + len * 7 + 7) / 8 = M at HP hpl ⊢
        have hM2 : M ≤ 2000000 := by have := (Pl.fill_le h.length).1; omega
        clear hM
        go_wp2_with (at_builtin; go_must (refine app_bytes _ rfl (.tmp 72) (.tmp 83) rfl w.heap.size _ _ _ rfl HO3.out (some ⟨w'.heap.size, 0, none⟩) M M (Pl.packed h.length (nats zs) len) rfl hpl (fun h => by cases h) (own_src HP.out) (by omega) (by omega) ?_))
        intro v3 w3 ho3 hg3
        have HO4 := hide ho3
        have HB4 : Hid (Below w.heap.size w w3) := HB3.out.grown hg3 (by omega) (fun k hk => (HO3.out.lt _ hk).1)
        clear ho3 hg3
        go_wp2
        go_meet
        have hlen := HU.out.rd.len_
        have hud : Pl.udData 0 h zs = h ++ Pl.packed h.length (nats zs) len := by unfold Pl.udData; rw [if_pos rfl, hlen]; rfl
        refine ⟨by simp, HO4.out.cast ?_ hud.symm, ?_, HB4.out⟩
        · rw [hud, List.length_append, hpl]
        · unfold Pl.udLen Pl.hs
          rw [if_pos rfl, hlen]
          go_num
      · have hal0' : (al == 0) = false := by simpa using hal0
        by_cases hal2 : al = 2
        · subst hal2
          go_wp2_with (at_builtin; go_must (refine app_bytes _ rfl (.tmp 87) (.tmp 91) rfl w.heap.size _ _ _ rfl HO2.out ao len cap zs rfl HRd.out.len_ HU.out.nil HRd.out.src (by omega) HB2.out.size ?_))
          intro v3 w3 ho3 hg3
          obtain ⟨ao3, c3, rfl, _, _⟩ := ho3.form
          have HO4 := hide ho3
          have HB4 : Hid (Below w.heap.size w w3) := HB2.out.grown hg3 HB2.out.size (fun k hk => (HO2.out.lt _ hk).1)
          clear ho3 hg3
          go_wp2
          go_meet
          have hlen := HU.out.rd.len_
          have hud : Pl.udData 2 h zs = h ++ zs := by unfold Pl.udData; rw [if_neg (by decide)]
          refine ⟨by simp, HO4.out.cast ?_ hud.symm, ?_, HB4.out⟩
          · rw [hud, List.length_append, hlen]
          · unfold Pl.udLen
            rw [if_neg (by decide), hlen]
            go_num
        · have hal2' : (al == 2) = false := by simpa using hal2
          obtain ⟨sh, hsh⟩ : ∃ sh : List UInt8, ∀ w : World, (FmtStop.operand "fmt.errorf" true 100 false (.iface 30 (.int .u8 al))).run Tryf.prog w = .ok (sh, Go.Extern.Stop.digits 8 (al % 2 ^ 64).toNat) w := op30_any "fmt.errorf" al
          have HP : Hid (∀ e w', Bad (.slice none 0 0) w.heap.size w e w' → UdPost base n xs al h zs w e w') := fun e w' hb => by
            unfold UdPost
            rw [if_neg (by rintro ⟨h1 | h1, _⟩ <;> contradiction)]
            exact hb
          have hszw := HB2.out.size
          go_wp2
          go_ret2
          exact HP.out _ _ ⟨_, _, rfl, ((HB2.out.alloc hszw _).alloc (by simp; omega) _).drew⟩
    case rest =>
      obtain ⟨hal, hown, hs9, hbel⟩ := hcut
      subst hs9
      obtain ⟨ao7, c7, rfl, hn7, hs7⟩ := hown.form
      have hdl : (Pl.udData al h zs).length ≤ 5000000 ∧ Pl.udLen al h zs ≤ 5000000 := by
        have := HU.out.rd.len_
        exact Pl.ud_bd al h zs (by omega) (by omega)
      have HO3 := hide hown
      have HB3 := hide hbel
      have HS7 := hide hs7
      have HN7 := hide hn7
      have hszw := HB3.out.size
      have HA := hide hal
      have HV := hide (HO.out.below HB3.out)
      clear hown hbel hs7 hn7 hal
      by_cases hfit : (Pl.udData al h zs).length ≤ 140
      · have HP : Hid (∀ e w', Good base (n + 1 + (Pl.udData al h zs).length) (xs ++ [(Pl.udLen al h zs : Int) % 256] ++ Pl.udData al h zs) w e w' → UdPost base n xs al h zs w e w') := fun e w' hb => by
          unfold UdPost
          rw [if_pos ⟨HA.out, hfit⟩]
          exact hb
        generalize Pl.udData al h zs = D at *
        generalize Pl.udLen al h zs = L at *
        go_wp2_with (at_builtin; go_must (refine app_bytes _ rfl (.tmp 104) (.tmp 107) rfl base _ _ _ rfl (HV.out.alloc _) (some ⟨wc.heap.size, 0, none⟩) 1 1 [(L : Int) % 256] rfl rfl (fun h => by cases h) (new_src wc [(L : Int) % 256] rfl) (by omega) (by simp; omega) ?_))
        intro v1 w1 ho1 hg1
        have hsz1 := hg1.size
        simp only [World.size_alloc] at hsz1
        have HO4 : Hid (OB w1 w.heap.size (.slice ao7 D.length c7) D.length D) := (HO3.out.alloc _).kept hg1 (by
          rcases hv : Value.ownBlock (.slice ao7 D.length c7) with _ | g
          · exact Or.inl rfl
          · refine Or.inr fun e => ?_
            have h1 := (HO3.out.lt _ hv).1
            have h2 := (HO.out.lt _ e.symm).2
            omega)
        have HB4 : Hid (Below base w w1) := ((HB3.out.mono hbase).alloc (by omega) _).grown hg1 (by simp; omega) (fun k hk => (HO.out.lt _ hk).1)
        have HO5 := hide ho1
        clear ho1 hg1
        go_wp2_with (at_builtin; go_must (refine app_bytes _ rfl (.tmp 109) (.tmp 110) rfl base _ _ _ rfl HO5.out ao7 D.length c7 D rfl rfl HO4.out.src.1 HO4.out.src.2 (by omega) (by omega) ?_))
        intro v2 w2 ho2 hg2
        have HO6 := hide ho2
        have HB5 : Hid (Below base w w2) := HB4.out.grown hg2 (by omega) (fun k hk => (HO5.out.lt _ hk).1)
        clear ho2 hg2
        go_wp2
        go_ret2
        exact HP.out _ _ ⟨v2, rfl, OB.cast HO6.out rfl (by simp), HB5.out⟩
      · have HP : Hid (∀ e w', Bad (.slice none 0 0) w.heap.size w e w' → UdPost base n xs al h zs w e w') := fun e w' hb => by
          unfold UdPost
          rw [if_neg (fun hh => hfit hh.2)]
          exact hb
        generalize Pl.udData al h zs = D at *
        generalize Pl.udLen al h zs = L at *
        go_wp2
        go_ret2
        exact HP.out _ _ ⟨_, _, rfl, ((HB3.out.alloc hszw _).alloc (by simp; omega) _).drew⟩
end Go.Proofs.Qxb6613194aFmt
