import Derived.Test.Qxb6613194aFmtUd
import Derived.Test.Qxb6613194aFmtMarshPl
import Derived.Deep.RegionWith
import Derived.Deep.RegionLaw
import Derived.Deep.RegionHeldLaw
namespace Go.Proofs.Qxb6613194aFmt
open Go.RowKit

/-- An address that can be written. -/
def AddrOk (ton npi : Int) (s : ByteArray) : Prop := ton ≤ 7 ∧ npi ≤ 15 ∧ ton ≠ 5 ∧ s.size ≤ 20 ∧ ∀ i, i < s.size → Pl.isDig (sb s i) = true

theorem addr_bad (ton npi : Int) (s nm : ByteArray) (b : Value) (w : World) (h0 : 0 ≤ ton) (h1 : ton ≤ 255) (g0 : 0 ≤ npi) (g1 : npi ≤ 255) (hs : s.size ≤ 2000000) (hn : ¬ AddrOk ton npi s) :
    Calls Tryf.prog 19 #[.agg #[.int .u8 ton, .int .u8 npi, .string s, .string nm], b] w (Bad (.slice none 0 0) w.heap.size w) := by
  by_cases a : 7 < ton ∨ 15 < npi
  · exact addr_wide ton npi s nm b w h0 h1 g0 g1 a
  · by_cases a5 : ton = 5
    · subst a5
      exact addr_alnum npi s nm b w g0 (by omega)
    · have a5' : (ton == 5) = false := by simpa using a5
      by_cases a20 : 20 < s.size
      · exact addr_long ton npi s nm b w h0 (by omega) a5' g0 (by omega) a20 hs
      · rcases Pl.first_bad (fun i => Pl.isDig (sb s i)) s.size with h | ⟨q, q1, q2, q3⟩
        · exact absurd ⟨by omega, by omega, a5, by omega, h⟩ hn
        · exact addr_digit ton npi s nm b w h0 (by omega) a5' g0 (by omega) (by omega) q q1 q2 q3

/-- What comes of an address: the octets behind those that were there, or an error. -/
def AddrRes (base : Nat) (ton npi : Int) (s : ByteArray) (n : Nat) (xs : List Int) (v5 v6 : Value) (w' : World) : Prop :=
  (AddrOk ton npi s ∧ v6 = .nilIface ∧ OB w' base v5 (n + 2 + (s.size + 1) / 2) (xs ++ [(s.size : Int), 128 + 16 * ton + npi] ++ Pl.tbRow (sb s) s.size ((s.size + 1) / 2))) ∨
  (¬ AddrOk ton npi s ∧ v5 = .slice none 0 0 ∧ ∃ t a, v6 = .iface t (.pointer (some a)))
def AddrPost (base : Nat) (ton npi : Int) (s : ByteArray) (n : Nat) (xs : List Int) (w : World) (e : Ending) (w' : World) : Prop :=
  ∃ v5 v6, e = .returned (.tuple #[v5, v6]) ∧ AddrRes base ton npi s n xs v5 v6 w' ∧ Below base w w'

theorem addr_any (ton npi : Int) (s nm : ByteArray) (b : Value) (base n : Nat) (xs : List Int) (w : World) (h0 : 0 ≤ ton) (h1 : ton ≤ 255) (g0 : 0 ≤ npi) (g1 : npi ≤ 255) (hs : s.size ≤ 2000000)
    (hb : base ≤ w.heap.size) (hn : n ≤ 1000) (hown : OB w base b n xs) :
    Calls Tryf.prog 19 #[.agg #[.int .u8 ton, .int .u8 npi, .string s, .string nm], b] w (AddrPost base ton npi s n xs w) := by
  by_cases hA : AddrOk ton npi s
  · obtain ⟨a1, a2, a3, a4, a5⟩ := hA
    refine (addr_ok ton npi s nm b base n xs w h0 a1 (by simpa using a3) g0 a2 a4 a5 hb hn hown).mono ?_
    rintro e w' ⟨v, rfl, ho, hbl⟩
    exact ⟨v, .nilIface, rfl, .inl ⟨⟨a1, a2, a3, a4, a5⟩, rfl, ho⟩, hbl⟩
  · refine (addr_bad ton npi s nm b w h0 h1 g0 g1 hs hA).mono ?_
    rintro e w' ⟨t, a, rfl, hbl⟩
    exact ⟨_, _, rfl, .inr ⟨hA, rfl, t, a, rfl⟩, hbl.mono hb⟩

/-- A Submit behind a pointer. -/
structure Sub (w : World) (B p : Nat) (rd srr : Bool) (mr ton npi : Int) (s nm : ByteArray) (pid vp al : Int) (ho : Option Addr) (hb hoff hn hcap : Nat) (es : Nat → El) (ao : Option Addr) (b off len cap : Nat) (zs : List Int) : Prop where
  c0 : w.cell? ⟨p, 0, none⟩ = some (.bool rd)
  c1 : w.cell? ⟨p, 1, none⟩ = some (.bool srr)
  c2 : w.cell? ⟨p, 2, none⟩ = some (.int .u8 mr)
  c3 : w.cell? ⟨p, 3, none⟩ = some (.int .u8 ton)
  c4 : w.cell? ⟨p, 4, none⟩ = some (.int .u8 npi)
  c5 : w.cell? ⟨p, 5, none⟩ = some (.string s)
  c6 : w.cell? ⟨p, 6, none⟩ = some (.string nm)
  c7 : w.cell? ⟨p, 7, none⟩ = some (.int .u8 pid)
  c8 : w.cell? ⟨p, 8, none⟩ = some (.int .i64 vp)
  ud : Ud w B p 9 al ho hb hoff hn hcap es ao b off len cap zs
  t0 : 0 ≤ ton
  t1 : ton ≤ 255
  n0 : 0 ≤ npi
  n1 : npi ≤ 255
  sz : s.size ≤ 2000000
  vmax : vp ≤ 9223372036854775807
  vmin : -9223372036854775808 ≤ vp

theorem Ud.below {w w' : World} {B p o : Nat} {al : Int} {ho : Option Addr} {hb hoff hn hcap : Nat} {es : Nat → El} {ao : Option Addr} {b off len cap : Nat} {zs : List Int}
    (h : Ud w B p o al ho hb hoff hn hcap es ao b off len cap zs) (hbl : Below B w w') : Ud w' B p o al ho hb hoff hn hcap es ao b off len cap zs :=
  ⟨h.lt, (hbl.cell h.lt).trans h.al_, h.al0, h.al1, (hbl.cell h.lt).trans h.head, (hbl.cell h.lt).trans h.text, h.hd.below hbl, h.rd.below hbl, h.hmax, h.nmax, h.lmax, h.nil⟩

theorem Sub.below {w w' : World} {B p : Nat} {rd srr : Bool} {mr ton npi : Int} {s nm : ByteArray} {pid vp al : Int} {ho : Option Addr} {hb hoff hn hcap : Nat} {es : Nat → El} {ao : Option Addr} {b off len cap : Nat} {zs : List Int}
    (h : Sub w B p rd srr mr ton npi s nm pid vp al ho hb hoff hn hcap es ao b off len cap zs) (hbl : Below B w w') : Sub w' B p rd srr mr ton npi s nm pid vp al ho hb hoff hn hcap es ao b off len cap zs :=
  ⟨(hbl.cell h.ud.lt).trans h.c0, (hbl.cell h.ud.lt).trans h.c1, (hbl.cell h.ud.lt).trans h.c2, (hbl.cell h.ud.lt).trans h.c3, (hbl.cell h.ud.lt).trans h.c4, (hbl.cell h.ud.lt).trans h.c5, (hbl.cell h.ud.lt).trans h.c6, (hbl.cell h.ud.lt).trans h.c7, (hbl.cell h.ud.lt).trans h.c8, h.ud.below hbl, h.t0, h.t1, h.n0, h.n1, h.sz, h.vmax, h.vmin⟩

theorem udPost_cases {base n : Nat} {xs : List Int} {al : Int} {h zs : List Int} {w : World} {e : Ending} {w' : World} (hp : UdPost base n xs al h zs w e w') :
    (((al = 0 ∨ al = 2) ∧ (Pl.udData al h zs).length ≤ 140) ∧ Good base (n + 1 + (Pl.udData al h zs).length) (xs ++ [(Pl.udLen al h zs : Int) % 256] ++ Pl.udData al h zs) w e w') ∨
    (¬ ((al = 0 ∨ al = 2) ∧ (Pl.udData al h zs).length ≤ 140) ∧ Bad (.slice none 0 0) w.heap.size w e w') := by
  unfold UdPost at hp
  by_cases hc : (al = 0 ∨ al = 2) ∧ (Pl.udData al h zs).length ≤ 140
  · rw [if_pos hc] at hp; exact .inl ⟨hc, hp⟩
  · rw [if_neg hc] at hp; exact .inr ⟨hc, hp⟩

theorem Hd.up {w : World} {B B' : Nat} {ho : Option Addr} {hb hoff hn : Nat} {es : Nat → El} (h : Hd w B ho hb hoff hn es) (hB : B ≤ B') : Hd w B' ho hb hoff hn es :=
  ⟨h.at_, fun hl => Nat.lt_of_lt_of_le (h.lt hl) hB, h.id, h.data, fun i hi => (h.rd i hi).up hB, h.bd, h.nil⟩
theorem Ud.up {w : World} {B B' p o : Nat} {al : Int} {ho : Option Addr} {hb hoff hn hcap : Nat} {es : Nat → El} {ao : Option Addr} {b off len cap : Nat} {zs : List Int}
    (h : Ud w B p o al ho hb hoff hn hcap es ao b off len cap zs) (hB : B ≤ B') : Ud w B' p o al ho hb hoff hn hcap es ao b off len cap zs :=
  ⟨Nat.lt_of_lt_of_le h.lt hB, h.al_, h.al0, h.al1, h.head, h.text, h.hd.up hB, h.rd.up hB, h.hmax, h.nmax, h.lmax, h.nil⟩

/-- The octets of an SMS-SUBMIT. -/
def octets (rd srr : Bool) (mr ton npi : Int) (s : ByteArray) (pid vp al : Int) (hn : Nat) (h zs : List Int) : List Int :=
  [Pl.f4 rd vp srr hn, mr] ++ [(s.size : Int), 128 + 16 * ton + npi] ++ Pl.tbRow (sb s) s.size ((s.size + 1) / 2) ++ [pid, al * 4 % 256] ++ Pl.vpO vp ++ [(Pl.udLen al h zs : Int) % 256] ++ Pl.udData al h zs

/-- What MarshalBinary does. -/
def MPost (rd srr : Bool) (mr ton npi : Int) (s : ByteArray) (pid vp al : Int) (hn : Nat) (h zs : List Int) (w : World) (e : Ending) (w' : World) : Prop :=
  ((AddrOk ton npi s ∧ (al = 0 ∨ al = 2) ∧ (Pl.udData al h zs).length ≤ 140) ∧ Good w.heap.size (octets rd srr mr ton npi s pid vp al hn h zs).length (octets rd srr mr ton npi s pid vp al hn h zs) w e w') ∨
  (¬ (AddrOk ton npi s ∧ (al = 0 ∨ al = 2) ∧ (Pl.udData al h zs).length ≤ 140) ∧ Bad (.slice none 0 0) w.heap.size w e w')

theorem OB.drew {w : World} {base : Nat} {v : Value} {n : Nat} {xs : List Int} (h : OB w base v n xs) : OB w.drew base v n xs := h

/-- 'app_bytes' as one step of a region that draws. -/
theorem step_app {ops : Array Oper} {o : Oper} {a : Act} {w : World} {K : Act → World → Prop} {Q : Exit → Act → World → Prop} {E : Prop} (hg : o.guard = none) (d : Tmp) (hd : o.dst = some d) (s x : Operand)
    (ho : o.op = .call { callee := .builtin .append, args := #[s, x], argTypes := #[23, 23] })
    (base : Nat) (v : Value) (n : Nat) (xs : List Int) (hs : a.eval s = v) (hown : OB w base v n xs)
    (ad : Addr) (m c : Nat) (ys : List Int) (hx : a.eval x = .slice (some ad) m c) (hl : ys.length = m)
    (hc : ∀ ad', some ad = some ad' → ∀ j, j < m → w.cell? (ad'.add j) = some (.int .u8 (ys.getD j 0))) (hsm : n + m ≤ 100000000) (hbase : base ≤ w.heap.size)
    (h : ∀ v' w', OB w' base v' (n + m) (xs ++ ys) → w.grownBy w' v.ownBlock → K (a.put (some d) v') w') :
    if Region.wanted o (yielded ops a.tmps) = true then Oper.wp Tryf.prog o a w K Q else E := by
  obtain ⟨i0, hi, hz0, hz1, hz2⟩ := info_parts Tryf.info5
  have hw : Region.wanted o (yielded ops a.tmps) = true := by simp [Region.wanted, hg]
  rw [if_pos hw]
  refine wp_append_own w s x 23 ho base 5 i0 (.int .u8 0) 1 1 Tryf.underlying23 hi hz0 hz1 hz2 rfl (by decide) v n _ hs hown ad m c (ys.map (Value.int .u8)) hx (by simp [hl]) ?_ (ints_oneCell _ _) (by unfold maxLen; omega) (by omega) hbase ?_
  · intro j u hu
    rw [List.getElem?_map] at hu
    have hj : j < m := by
      rcases Nat.lt_or_ge j ys.length with h1 | h1
      · omega
      · rw [List.getElem?_eq_none h1] at hu; simp at hu
    rw [hc ad rfl j hj]
    rw [List.getElem?_eq_getElem (by omega)] at hu
    rw [List.getD_eq_getElem?_getD, List.getElem?_eq_getElem (by omega)]
    simpa using hu
  · intro v' w' h1 h2 _
    rw [hd]
    exact h v' w' (by unfold OB; rw [List.map_append]; exact h1) h2

set_option maxRecDepth 100000 in
set_option maxHeartbeats 4000000 in
theorem marsh_any (p : Nat) (rd srr : Bool) (mr ton npi : Int) (s nm : ByteArray) (pid vp al : Int) (ho : Option Addr) (hb hoff hn hcap : Nat) (es : Nat → El) (ao : Option Addr) (b off len cap : Nat) (zs : List Int) (w : World)
    (hS : Sub w w.heap.size p rd srr mr ton npi s nm pid vp al ho hb hoff hn hcap es ao b off len cap zs) :
    Calls Tryf.prog 9 #[.pointer (some ⟨p, 0, none⟩)] w (MPost rd srr mr ton npi s pid vp al hn (Pl.hdr (ids es) (dats es) hn) zs w) := by
  have HS := hide hS
  obtain ⟨c0, c1, c2, c3, c4, c5, c6, c7, c8, hu, t0, t1, n0, n1, sz, vmax, vmin⟩ := hS
  have c10 := hu.head
  have hplt := hu.lt
  have hnm := hu.nmax
  clear hu
  have HE : Hid (∀ F : Int, Calls Tryf.prog 19 #[.agg #[.int .u8 ton, .int .u8 npi, .string s, .string nm], .slice (some ⟨w.heap.size, 0, none⟩) 2 2] (w.alloc (.cells #[.int .u8 F, .int .u8 mr] 5)).drew (AddrPost w.heap.size ton npi s 2 [F, mr] (w.alloc (.cells #[.int .u8 F, .int .u8 mr] 5)).drew)) :=
    fun F => addr_any ton npi s nm _ w.heap.size 2 [F, mr] _ t0 t1 n0 n1 sz (by simp) (by omega) (World.ownsRow_lit w #[.int .u8 F, .int .u8 mr] 2 (Nat.le_refl _) (by unfold maxLen; omega) rfl).drew
  go_enter Tryf.func9, Tryf.ntmps9
  go_upto_if 10 with fail
  go_cut [4] (fun s4 wx => w = wx ∧ s4 = .int .u8 (Pl.f1 rd))
  case first => cases rd <;> go_wp2 <;> go_meet <;> exact ⟨rfl, rfl⟩
  case rest =>
  obtain ⟨rfl, rfl⟩ := hcut
  go_upto_if 17 with fail
  go_cut [4] (fun s4 wx => w = wx ∧ s4 = .int .u8 (Pl.f2 rd vp))
  case first =>
    by_cases hvp : 0 < vp
    · have ho := Pl.or16 rd vp hvp
      go_wp2
      go_meet
      exact ⟨rfl, rfl⟩
    · have he : Pl.f2 rd vp = Pl.f1 rd := by rw [Pl.f2, if_neg hvp]
      go_wp2
      go_meet
      exact ⟨rfl, by rw [he]⟩
  case rest =>
  obtain ⟨rfl, rfl⟩ := hcut
  go_upto_if 23 with fail
  go_cut [4] (fun s4 wx => w = wx ∧ s4 = .int .u8 (Pl.f3 rd vp srr))
  case first =>
    cases srr
    · go_wp2
      go_meet
      exact ⟨rfl, rfl⟩
    · have ho := Pl.or32 rd vp
      go_wp2
      go_meet
      exact ⟨rfl, rfl⟩
  case rest =>
  obtain ⟨rfl, rfl⟩ := hcut
  go_upto_if 32 with fail
  go_cut [4] (fun s4 wx => w = wx ∧ s4 = .int .u8 (Pl.f4 rd vp srr hn))
  case first =>
    by_cases hh : 0 < hn
    · have ho := Pl.or64 rd vp srr hn hh
      go_wp2
      go_meet
      exact ⟨rfl, rfl⟩
    · have he : Pl.f4 rd vp srr hn = Pl.f3 rd vp srr := by rw [Pl.f4, if_neg hh]
      go_wp2
      go_meet
      exact ⟨rfl, by rw [he]⟩
  case rest =>
  obtain ⟨rfl, rfl⟩ := hcut
  go_upto_region 10 with fail
  go_cut [5, 6] (fun s5 s6 wx => Below w.heap.size w wx ∧ AddrRes w.heap.size ton npi s 2 [Pl.f4 rd vp srr hn, mr] s5 s6 wx)
  case first =>
    go_region_with (go_at_call 19; refine (HE.out _).mono ?_; rintro e w' ⟨v5, v6, rfl, hr, hbe⟩)
    all_goals (go_wp2_with fail; go_meet; exact ⟨(((Below.refl _ _).alloc (Nat.le_refl _) _).drew).trans hbe, hr⟩)
  case rest =>
  obtain ⟨hbel, hres⟩ := hcut
  rcases hres with ⟨hA, rfl, hown⟩ | ⟨hA, rfl, t, a, rfl⟩
  · have HSc := hide (HS.out.below hbel)
    obtain ⟨d0, d1, d2, d3, d4, d5, d6, d7, d8, hu, -, -, -, -, -, -, -⟩ := HS.out.below hbel
    have d9 := hu.al_
    have d10 := hu.head
    have hal0 := hu.al0
    have hal1 := hu.al1
    clear hu d0 d1 d2 d3 d4 d5 d6 d10 c0 c1 c2 c3 c4 c5 c6 c7 c8 c10
    have HO1 := hide hown
    have HB1 := hide hbel
    have HA := hide hA
    have hszw := hbel.size
    obtain ⟨a1, a2, a3, a4, a5⟩ := hA
    clear hown hbel a5
    generalize hm : (s.size + 1) / 2 = m at *
    have hm2 : m ≤ 10 := by omega
    have HM := hide hm
    clear hm
    have HX : Hid (∀ wq : World, Below w.heap.size wc wq → wq.cell? ⟨p, 9, none⟩ = some (.int .u8 al)) := fun wq hq => (hq.cell hplt).trans d9
    have hpw : p < wc.heap.size := Nat.lt_of_lt_of_le hplt hszw
    have HK : Hid (∀ w1 : World, ∀ hg : ((wc.alloc (.cells #[.int .u8 pid, .int .u8 (al * 4 % 256)] 5)).drew).grownBy w1 _, w1.cell? ⟨p, 7, none⟩ = some (.int .u8 pid) ∧ w1.cell? ⟨p, 9, none⟩ = some (.int .u8 al)) := fun w1 hg =>
      ⟨hg.cell (by go_simp) (fun e => by have := (HO1.out.lt _ e.symm).1; simp at this; omega), hg.cell (by go_simp) (fun e => by have := (HO1.out.lt _ e.symm).1; simp at this; omega)⟩
    go_upto_region 13 with fail
    go_cut [5] (fun s5 wx => Below w.heap.size w wx ∧ OB wx w.heap.size s5 (2 + 2 + m + 2) ([Pl.f4 rd vp srr hn, mr] ++ [(s.size : Int), 128 + 16 * ton + npi] ++ Pl.tbRow (sb s) s.size m ++ [pid, al * 4 % 256]))
    case first =>
      go_region_held_law (fun w' => w'.cell? ⟨p, 7, none⟩ = some (.int .u8 pid) ∧ w'.cell? ⟨p, 9, none⟩ = some (.int .u8 al)) (first | go_keep | (exact HK.out _ (by assumption)))
       (first
        | (refine step_app rfl 62 rfl (.tmp 52) (.tmp 61) rfl w.heap.size _ _ _ rfl (HO1.out.alloc _).drew ⟨wc.heap.size, 0, none⟩ 2 2 [pid, al * 4 % 256] rfl rfl (new_src wc [pid, al * 4 % 256] rfl) (by omega) (by simp; omega) ?_; intro v1 w1 ho1 hg1)
        | (go_at_call 20; refine (dcs_any _ _ al _ (by go_simp)).mono ?_; rintro e w' ⟨rfl, rfl⟩))
      go_wp2_with fail
      go_meet
      exact ⟨((HB1.out.alloc hszw _).drew).grown hg1 (by simp; omega) (fun k hk => (HO1.out.lt _ hk).1), ho1.cast rfl (by simp)⟩
    case rest =>
    obtain ⟨hbel2, hown2⟩ := hcut
    have HS2 := hide (HS.out.below hbel2)
    have HO2 := hide hown2
    have HB2 := hide hbel2
    have e8 := HS2.out.c8
    have hsz2 := hbel2.size
    clear hbel2 hown2 HK HX d7 d8 d9 HO1 HB1 HSc HE hpw
    have htl : (Pl.tbRow (sb s) s.size m).length = m := Pl.tbRow_length _ _ _
    have HT := hide htl
    clear htl
    by_cases hvp : 0 < vp
    · have hrv := Pl.rvp_bd vp hvp
      have HV : Hid (Pl.vpO vp = [Pl.rvp vp]) := by show Pl.vpO vp = _; unfold Pl.vpO; rw [if_pos hvp]
      go_wp2_with fail
      refine (rvp_any _ _ hvp vmax).mono ?_
      rintro e w' ⟨rfl, rfl⟩
      go_wp2_with (at_builtin; go_must (refine app_bytes _ rfl (.tmp 68) (.tmp 74) rfl w.heap.size _ _ _ rfl (HO2.out.alloc _) (some ⟨w'.heap.size, 0, none⟩) 1 1 [Pl.rvp vp] rfl rfl (fun h => by cases h) (new_src w' [Pl.rvp vp] rfl) (by omega) (by simp; omega) ?_))
      intro v3 w3 ho3 hg3
      have HB3 : Hid (Below w.heap.size w w3) := (HB2.out.alloc hsz2 _).grown hg3 (by simp; omega) (fun k hk => (HO2.out.lt _ hk).1)
      have HO3 := hide ho3
      clear ho3 hg3
      have hsz3 := HB3.out.size
      go_wp2_with fail
      refine (ud_any w.heap.size p 9 al ho hb hoff hn hcap es ao b off len cap zs _ _ _ _ ((HS.out.ud.below HB3.out).up hsz3) hsz3 (by omega) HO3.out).mono ?_
      intro e w4 hp
      rcases udPost_cases hp with ⟨hc, v, rfl, hown4, hb4⟩ | ⟨hc, t, a, rfl, hb4⟩
      · have HO4 := hide (show OB w4 _ _ _ _ from hown4)
        have HB4 := hide (HB3.out.trans hb4)
        have HC := hide hc
        clear hown4 hb4 hc
        go_wp2
        go_ret2
        refine .inl ⟨⟨HA.out, HC.out⟩, v, rfl, OB.cast HO4.out ?_ ?_, HB4.out⟩
        · have ht := HT.out
          have hm := HM.out
          simp only [octets, HV.out, List.length_append, List.length_cons, List.length_nil, hm, ht]
        · have hm := HM.out
          simp [octets, HV.out, hm]
      · have HB4 := hide (HB3.out.trans (hb4.mono hsz3))
        have HC := hide hc
        clear hb4 hc
        go_wp2
        go_ret2
        exact .inr ⟨fun h => HC.out h.2, _, _, rfl, HB4.out⟩
    · have HV : Hid (Pl.vpO vp = []) := by show Pl.vpO vp = _; unfold Pl.vpO; rw [if_neg hvp]
      go_wp2_with fail
      refine (ud_any w.heap.size p 9 al ho hb hoff hn hcap es ao b off len cap zs _ _ _ _ (HS2.out.ud.up hsz2) hsz2 (by omega) HO2.out).mono ?_
      intro e w4 hp
      rcases udPost_cases hp with ⟨hc, v, rfl, hown4, hb4⟩ | ⟨hc, t, a, rfl, hb4⟩
      · have HO4 := hide (show OB w4 _ _ _ _ from hown4)
        have HB4 := hide (HB2.out.trans hb4)
        have HC := hide hc
        clear hown4 hb4 hc
        go_wp2
        go_ret2
        refine .inl ⟨⟨HA.out, HC.out⟩, v, rfl, OB.cast HO4.out ?_ ?_, HB4.out⟩
        · have ht := HT.out
          have hm := HM.out
          simp only [octets, HV.out, List.length_append, List.length_cons, List.length_nil, hm, ht]
        · have hm := HM.out
          simp [octets, HV.out, hm]
      · have HB4 := hide (HB2.out.trans (hb4.mono hsz2))
        have HC := hide hc
        clear hb4 hc
        go_wp2
        go_ret2
        exact .inr ⟨fun h => HC.out h.2, _, _, rfl, HB4.out⟩
  · go_wp2
    go_ret2
    exact .inr ⟨fun h => hA h.1, _, _, rfl, hbel⟩
end Go.Proofs.Qxb6613194aFmt
