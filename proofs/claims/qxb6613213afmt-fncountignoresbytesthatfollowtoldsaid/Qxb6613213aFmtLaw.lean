import Derived.Test.Qxb6613213aFmtRow
namespace Go.Proofs.Qxb6613213aFmt
open Go.RowKit

/-- data, then extra. -/
def jn (L : Nat) (h x : Nat → Int) (i : Nat) : Int := if i < L then h i else x (i - L)
theorem jn_lt {L : Nat} {h x : Nat → Int} {i : Nat} (hi : i < L) : jn L h x i = h i := by simp [jn, hi]
theorem jn_ge {L : Nat} {h x : Nat → Int} (i : Nat) : jn L h x (L + i) = x i := by
  unfold jn
  rw [if_neg (by omega), Nat.add_sub_cancel_left]
theorem Dec.jn {L E : Nat} {h x : Nat → Int} {i : Nat} (d : Dec L h i) : Dec (L + E) (jn L h x) i := by
  obtain ⟨d1, d2, d3, d4, d5⟩ := d
  refine ⟨by omega, d2, fun j hj => ?_, ?_, ?_⟩
  · rw [jn_lt (by omega)]; exact d3 j hj
  · rw [jn_lt d1]; exact d4
  · rw [jn_lt d1]; exact d5
theorem acc_jn {L : Nat} {h x : Nat → Int} {i : Nat} (hi : i < L) : acc (jn L h x) (i + 1) = acc h (i + 1) := acc_congr _ fun j hj => jn_lt (by omega)

/-- The state of the law: the clone c, its reader p, the joined row g. -/
structure J (W w : World) (c p g L T k : Nat) (vp : Value) (h f : Nat → Int) : Prop where
  bel : Below W.heap.size W w
  cl : BR w c L L h
  rd : Rdr w p vp
  jo : BR w g T k f
  ne : W.heap.size ≤ c ∧ W.heap.size ≤ p ∧ W.heap.size ≤ g ∧ c ≠ p ∧ c ≠ g ∧ p ≠ g
theorem J.step {W w w' : World} {c p g L T k : Nat} {vp : Value} {h f : Nat → Int} (s : J W w c p g L T k vp h f) (hc : Chg (fun _ => False) w w') : J W w' c p g L T k vp h f :=
  ⟨hc.below s.bel s.bel.size (fun _ _ x => x), s.cl.kept hc id, s.rd.kept hc id, s.jo.kept hc id, s.ne⟩
theorem J.set {W w : World} {c p g L T k : Nat} {vp : Value} {h f : Nat → Int} (s : J W w c p g L T k vp h f) (hk : k < T) {x : Int} (hx : x = f k) : J W (w.setCell ⟨g, k, none⟩ (.int .u8 x)) c p g L T (k + 1) vp h f := by
  obtain ⟨n1, n2, n3, n4, n5, n6⟩ := s.ne
  have hc : Chg (fun j => j = g) w (w.setCell ⟨g, k, none⟩ (.int .u8 x)) := (Chg.refl (fun j => j = g) w).setCell (.inl rfl) _
  exact ⟨s.bel.setCell n3 _, s.cl.kept hc n5, s.rd.kept hc n6, s.jo.set hk hx, s.ne⟩

theorem jn_bd {L E : Nat} {h x : Nat → Int} (h1 : ∀ i, i < L → 0 ≤ h i ∧ h i ≤ 255) (h2 : ∀ i, i < E → 0 ≤ x i ∧ x i ≤ 255) : ∀ i, i < L + E → 0 ≤ jn L h x i ∧ jn L h x i ≤ 255 := by
  intro i hi
  by_cases e : i < L
  · rw [jn_lt e]; exact h1 i e
  · have := jn_ge (L := L) (h := h) (x := x) (i - L)
    rw [show L + (i - L) = i by omega] at this
    rw [this]
    exact h2 _ (by omega)

/-- Behind the two counts. -/
structure Fin3 (W w : World) (c g p q L T : Nat) (vp vq : Value) (h f : Nat → Int) : Prop where
  bel : Below W.heap.size W w
  cl : BR w c L L h
  jo : BR w g T T f
  rp : Rdr w p vp
  rq : Rdr w q vq

theorem Bts.tail {w : World} {N : Nat} {ao : Option Addr} {b off L : Nat} {h : Nat → Int} (d : Bts w N ao b off L h) (u : Nat) {ao' : Option Addr} (ha : 0 < L - u → ao' = some ⟨b, off + u, none⟩) {N' : Nat} (hN : N ≤ N') : Bts w N' ao' b (off + u) (L - u) (fun j => h (u + j)) :=
  ⟨ha, fun hl => Nat.lt_of_lt_of_le (d.lt (by omega)) hN, fun i hi => by have := d.cell (u + i) (by omega); rwa [← Nat.add_assoc] at this, fun i hi => d.bd (u + i) (by omega)⟩
theorem made_br {w w' : World} {T : Nat} {xs : List Value} (ho : w'.ownsRow w.heap.size 5 1 (.slice (some ⟨w.heap.size, 0, none⟩) T T) T xs) (hg : w.grownBy w' none) (f : Nat → Int) : BR w' w.heap.size T 0 f ∧ Chg (fun _ => False) w w' := by
  have hb := (Below.refl w.heap.size w).grown hg (Nat.le_refl _) (fun k h => by cases h)
  refine ⟨?_, ⟨hb.os, hb.tape, hb.output, hb.size, fun k hk _ => hb.block k hk⟩⟩
  rcases ho.2 with ⟨h, _⟩ | ⟨g, cap, cur, h, _, hg, _, _, hcs, _⟩
  · cases h
  · simp only [Value.slice.injEq, Option.some.injEq, Addr.mk.injEq, and_true, true_and] at h
    obtain ⟨rfl, rfl⟩ := h
    exact ⟨cur, hg, by omega, fun i hi => absurd hi (Nat.not_lt_zero _)⟩
theorem j_start {w w1 w2 w3 : World} {L T : Nat} {vp : Value} {h f : Nat → Int} (c1 : BR w1 w.heap.size L L h) (k1 : Chg (fun _ => False) w w1) (c2 : Rdr w2 w1.heap.size vp) (k2 : Chg (fun _ => False) w1 w2)
    (c3 : BR w3 w2.heap.size T 0 f) (k3 : Chg (fun _ => False) w2 w3) : J w w3 w.heap.size w1.heap.size w2.heap.size L T 0 vp h f := by
  have a1 := c1.lt
  have a2 := c2.lt
  exact ⟨((k1.trans k2).trans k3).below (Below.refl _ _) (Nat.le_refl _) (fun _ _ x => x), (c1.kept k2 id).kept k3 id, c2.kept k3 id, c3, by omega⟩

set_option maxRecDepth 100000 in
set_option maxHeartbeats 1600000 in
theorem law3 (ao : Option Addr) (b off L cap : Nat) (h : Nat → Int) (eo : Option Addr) (eb eoff E ec : Nat) (x : Nat → Int) (w : World)
    (hd : Bts w w.heap.size ao b off L h) (he : Bts w w.heap.size eo eb eoff E x) (hcap : L ≤ cap) :
    Calls Tryf.prog 3 #[.slice ao L cap, .slice eo E ec] w fun e w' => e = .returned (.bool true) ∧ Below w.heap.size w w' := by
  have HD := hide hd
  have HE := hide he
  clear hd he
  go_enter Tryf.func3, Tryf.ntmps3
  go_wp2_with fail
  refine (zz4_any ao L cap eo E ec w).mono ?_
  rintro e w1 ⟨r, rfl, rfl⟩
  cases r
  · go_wp2
    go_ret
    exact ⟨rfl, Below.refl _ _⟩
  by_cases hL : 1048576 < L
  · go_wp2
    go_ret
    exact ⟨rfl, Below.refl _ _⟩
  by_cases hE : (1048576 : Int) - L < E
  · go_wp2
    go_ret
    exact ⟨rfl, Below.refl _ _⟩
  go_wp2_with fail
  refine (model5 ao b off L cap h w HD.out (by omega)).mono ?_
  rintro e w1 ⟨v, n, g, rfl, rfl, hg⟩
  cases g
  case true =>
    go_wp2
    go_ret
    exact ⟨rfl, Below.refl _ _⟩
  obtain ⟨i, hdec, rfl, rfl, hle⟩ := hg rfl
  have hi := hdec.1
  have HX := hide hdec
  have HLE := hide hle
  clear hdec hle hg
  obtain rfl := HD.out.at_ (by omega)
  go_wp2_with fail
  refine (clone7 b off L cap h w HD.out (by omega)).mono ?_
  rintro e w1 ⟨rfl, hcl, hc1⟩
  replace hcl := hide hcl
  replace hc1 := hide hc1
  go_wp2_with fail
  refine (new6 _ L L w1).mono ?_
  rintro e w2 ⟨rfl, hrd, hc2⟩
  replace hrd := hide hrd
  replace hc2 := hide hc2
  obtain ⟨i0, hi0, hz0, hz1, hz2⟩ := info_parts Tryf.info5
  go_wp2_with (at_make; go_must (refine wpList_make_full _ rfl _ _ 22 rfl w2.heap.size 5 i0 (.int .u8 0) 1 Tryf.underlying22 hi0 hz0 hz1 _ _ _ _ (L + E) rfl rfl ?m1 ?m2 ?b2 ?b3 (Nat.le_refl _) ?_))
  case m1 => omega
  case m2 => omega
  case b2 => rw [hz2]; omega
  case b3 => unfold maxLen; omega
  intro w3 hown hgrow
  obtain ⟨hbr, hc3⟩ := made_br hown hgrow (jn L h x)
  have HJ := hide (j_start hcl.out hc1.out hrd.out hc2.out hbr hc3)
  clear hown hgrow hbr hc3 hcl hc1 hrd hc2 hi0 hz0 hz1 hz2 i0
  generalize w1.heap.size = p at *
  generalize w2.heap.size = g at *
  clear w1 w2
  go_wp2
  go_loopw [10] (fun i wr => ∃ k : Nat, k ≤ L ∧ i = .int .i64 k ∧ Hid (J w wr w.heap.size p g L (L + E) k (.slice (some ⟨w.heap.size, 0, none⟩) L L) h (jn L h x))) (fun i _ => L - (intOf i).toNat)
  case atStart => exact ⟨0, Nat.zero_le _, rfl, HJ.out⟩
  case round =>
    clear HJ
    obtain ⟨k, hk, rfl, hj⟩ := hrel
    by_cases hlt : k < L
    · have hda := (HD.out.kept hj.out.bel.block).cell k hlt
      obtain ⟨⟨x0, hr0⟩, hf0⟩ := hj.out.jo.may k (by omega)
      go_wp2
      go_roundw
      case rel => exact ⟨k + 1, by omega, by go_num, hj.out.set (by omega) (jn_lt hlt).symm⟩
      case measure => simp [intOf]; omega
    · obtain rfl : L = k := by omega
      go_wp2
      go_loopw [11] (fun i wr => ∃ k : Nat, k ≤ E ∧ i = .int .i64 k ∧ Hid (J w wr w.heap.size p g L (L + E) (L + k) (.slice (some ⟨w.heap.size, 0, none⟩) L L) h (jn L h x))) (fun i _ => E - (intOf i).toNat)
      case atStart => exact ⟨0, Nat.zero_le _, rfl, hj.out⟩
      case round =>
        clear hj
        obtain ⟨k, hk, rfl, hj⟩ := hrel
        by_cases hlt : k < E
        · obtain rfl := HE.out.at_ (by omega)
          have hda := (HE.out.kept hj.out.bel.block).cell k hlt
          obtain ⟨⟨x0, hr0⟩, hf0⟩ := hj.out.jo.may (L + k) (by omega)
          go_wp2
          go_roundw
          case rel => exact ⟨k + 1, by omega, by go_num, hj.out.set (by omega) (jn_ge k).symm⟩
          case measure => simp [intOf]; omega
        · obtain rfl : E = k := by omega
          go_wp2_with fail
          refine (new6 _ (L + E) (L + E) _).mono ?_
          rintro e w5 ⟨rfl, hq, hc5⟩
          have HJ := hide (hj.out.step hc5)
          have hqs : g < wr.heap.size := hj.out.jo.lt
          have hps : p < wr.heap.size := hj.out.rd.lt
          have hws : w.heap.size < wr.heap.size := hj.out.cl.lt
          have hqb := hj.out.bel.size
          replace hq := hide hq
          clear hj hc5
          generalize wr.heap.size = q at *
          clear wr
          have HC := hide (count8 p _ w.heap.size 0 L L h i w5 HJ.out.rd (HJ.out.cl.bts HD.out.bd) HX.out (by omega) (Nat.le_refl _) HLE.out)
          go_wp2_with fail
          refine HC.out.mono ?_
          rintro e w6 ⟨rfl, ra, hra, hra', hc6⟩
          clear HC
          obtain ⟨n1, n2, n3, n4, n5, n6⟩ := HJ.out.ne
          have HF : Hid (Fin3 w w6 w.heap.size g p q L (L + E) (.slice ra (L - (i + 1)) (L - (i + 1))) (.slice (some ⟨g, 0, none⟩) (L + E) (L + E)) h (jn L h x)) :=
            ⟨hc6.below HJ.out.bel HJ.out.bel.size (fun k hk e => by omega), HJ.out.cl.kept hc6 n4, HJ.out.jo.kept hc6 (Ne.symm n6), hra, hq.out.kept hc6 (by omega)⟩
          have HRA := hide hra'
          clear hc6 hra hra' HJ hq
          have hle2 : acc (jn L h x) (i + 1) ≤ ((L + E - (i + 1) : Nat) : Int) := by
            rw [acc_jn hi]
            have := HLE.out
            omega
          have HC := hide (count8 q _ g 0 (L + E) (L + E) (jn L h x) i w6 HF.out.rq (HF.out.jo.bts (jn_bd HD.out.bd HE.out.bd)) HX.out.jn (by omega) (Nat.le_refl _) hle2)
          clear hle2
          go_wp2_with fail
          refine HC.out.mono ?_
          rintro e w7 ⟨he, rq, hrq, hrq', hc7⟩
          rw [acc_jn hi] at he
          subst he
          clear HC
          have HG : Hid (Fin3 w w7 w.heap.size g p q L (L + E) (.slice ra (L - (i + 1)) (L - (i + 1))) (.slice rq (L + E - (i + 1)) (L + E - (i + 1))) h (jn L h x)) :=
            ⟨hc7.below HF.out.bel HF.out.bel.size (fun k hk e => by omega), HF.out.cl.kept hc7 (by omega), HF.out.jo.kept hc7 (by omega), HF.out.rp.kept hc7 (by omega), hrq⟩
          have HRQ := hide hrq'
          clear hc7 hrq hrq' HF
          clear w6
          go_wp2_with fail
          refine (rest9 p _ _ _ w7 HG.out.rp).mono ?_
          rintro e w8 ⟨rfl, rfl⟩
          go_wp2_with fail
          refine (rest9 q _ _ _ w7 HG.out.rq).mono ?_
          rintro e w8 ⟨rfl, rfl⟩
          go_wp2_with fail
          refine (failed10 p _ w7 HG.out.rp).mono ?_
          rintro e w8 ⟨rfl, rfl⟩
          go_wp2_with fail
          refine (failed10 q _ w7 HG.out.rq).mono ?_
          rintro e w8 ⟨rfl, rfl⟩
          have hlen : ((L + E - (i + 1) : Nat) : Int) = (L : Int) - ((i : Int) + 1) + E := by omega
          replace HRQ : Hid (0 < L + E - (i + 1) → rq = some ⟨g, i + 1, none⟩) := by have := HRQ.out; rwa [Nat.zero_add] at this
          have TB : Hid (Bts w7 w7.heap.size rq g (i + 1) (L + E - (i + 1)) (fun j => jn L h x (i + 1 + j))) := by
            have := (HG.out.jo.bts (jn_bd HD.out.bd HE.out.bd)).tail (i + 1) (by rw [Nat.zero_add]; exact HRQ.out) (Nat.le_refl _)
            rwa [Nat.zero_add] at this
          generalize hR : L + E - (i + 1) = R at *
          have hRL : R ≤ L + E ∧ i + 1 + R = L + E := by omega
          have HRR := hide hR
          clear hR
          by_cases hcf : cap = i + 1
          · go_wp2_with fail
            refine (same11 ra _ w.heap.size (0 + (i + 1)) b (off + (i + 1)) (L - (i + 1)) _ _ (fun j => h (i + 1 + j)) w7 w7.heap.size ((HG.out.cl.bts HD.out.bd).tail (i + 1) HRA.out (Nat.le_refl _)) ((HD.out.kept HG.out.bel.block).tail (i + 1) (fun h => by omega) HG.out.bel.size) (by omega)).mono ?_
            rintro e w8 ⟨rfl, m0, rfl⟩
            go_wp2
            clear hlen
            go_loopw [17] (fun j wr => ∃ k m : Nat, k ≤ L - (i + 1) ∧ j = .int .i64 k ∧ wr = w7.drewN m) (fun j _ => L - (intOf j).toNat)
            case atStart => exact ⟨0, m0, Nat.zero_le _, rfl, rfl⟩
            case round =>
              obtain ⟨k, m, hk, rfl, rfl⟩ := hrel
              by_cases hlt : k < L - (i + 1)
              · exact absurd hlt (by omega)
              · obtain rfl : k = L - (i + 1) := by omega
                go_wp2
                go_loopw [18] (fun j wr => ∃ k m : Nat, k ≤ E ∧ j = .int .i64 k ∧ wr = w7.drewN m) (fun j _ => E - (intOf j).toNat)
                case atStart => exact ⟨0, m, Nat.zero_le _, rfl, rfl⟩
                case round =>
                  obtain ⟨k, m, hk, rfl, rfl⟩ := hrel
                  by_cases hlt : k < E
                  · obtain rfl := HRQ.out (by omega)
                    obtain rfl := HE.out.at_ (by omega)
                    obtain ⟨d, hw2, hd2⟩ : ∃ d : Nat, IntKind.i64.wrap (IntKind.i64.wrap ((L : Int) - ((i : Int) + 1)) + (k : Int)) = (d : Int) ∧ i + 1 + d = L + k :=
                      ⟨L - (i + 1) + k, by rw [IntWalk.i64_in ((L : Int) - ((i : Int) + 1)) ⟨by omega, by omega⟩, IntWalk.i64_in _ ⟨by omega, by omega⟩]; omega, by omega⟩
                    have hd3 : d < R := by omega
                    have hd4 : (d : Int) < (R : Int) := by omega
                    have cB : w7.cell? ⟨g, i + 1 + d, none⟩ = some (.int .u8 (x k)) := by
                      have hv : jn L h x (i + 1 + d) = x k := by rw [hd2, jn_ge]
                      rw [← hv]
                      exact TB.out.cell d hd3
                    have cE := (HE.out.kept HG.out.bel.block).cell k hlt
                    clear hd2
                    go_wp2_with fail
                    go_quiet (fail)
                    go_wp2
                    go_roundw
                    case rel => exact ⟨k + 1, m + nq, by omega, by go_num, rfl⟩
                    case measure => simp [intOf]; omega
                  · go_wp2
                    go_ret
                    exact ⟨rfl, ((Chg.refl (fun _ => False) w7).drewN m).below HG.out.bel HG.out.bel.size (fun _ _ x => x)⟩
          · go_wp2_with fail
            refine (same11 ra _ w.heap.size (0 + (i + 1)) b (off + (i + 1)) (L - (i + 1)) _ _ (fun j => h (i + 1 + j)) w7 w7.heap.size ((HG.out.cl.bts HD.out.bd).tail (i + 1) HRA.out (Nat.le_refl _)) ((HD.out.kept HG.out.bel.block).tail (i + 1) (fun _ => rfl) HG.out.bel.size) (by omega)).mono ?_
            rintro e w8 ⟨rfl, m0, rfl⟩
            go_wp2
            clear hlen
            go_loopw [17] (fun j wr => ∃ k m : Nat, k ≤ L - (i + 1) ∧ j = .int .i64 k ∧ wr = w7.drewN m) (fun j _ => L - (intOf j).toNat)
            case atStart => exact ⟨0, m0, Nat.zero_le _, rfl, rfl⟩
            case round =>
              obtain ⟨k, m, hk, rfl, rfl⟩ := hrel
              by_cases hlt : k < L - (i + 1)
              · obtain rfl := HRQ.out (by omega)
                have cB := TB.out.cell k (by omega)
                have cD := (HD.out.kept HG.out.bel.block).cell (i + 1 + k) (by omega)
                rw [jn_lt (by omega)] at cB
                go_wp2_with fail
                go_quiet (fail)
                go_wp2
                go_roundw
                case rel => exact ⟨k + 1, m + nq, by omega, by go_num, rfl⟩
                case measure => simp [intOf]; omega
              · obtain rfl : k = L - (i + 1) := by omega
                go_wp2
                go_loopw [18] (fun j wr => ∃ k m : Nat, k ≤ E ∧ j = .int .i64 k ∧ wr = w7.drewN m) (fun j _ => E - (intOf j).toNat)
                case atStart => exact ⟨0, m, Nat.zero_le _, rfl, rfl⟩
                case round =>
                  obtain ⟨k, m, hk, rfl, rfl⟩ := hrel
                  by_cases hlt : k < E
                  · obtain rfl := HRQ.out (by omega)
                    obtain rfl := HE.out.at_ (by omega)
                    obtain ⟨d, hw2, hd2⟩ : ∃ d : Nat, IntKind.i64.wrap (IntKind.i64.wrap ((L : Int) - ((i : Int) + 1)) + (k : Int)) = (d : Int) ∧ i + 1 + d = L + k :=
                      ⟨L - (i + 1) + k, by rw [IntWalk.i64_in ((L : Int) - ((i : Int) + 1)) ⟨by omega, by omega⟩, IntWalk.i64_in _ ⟨by omega, by omega⟩]; omega, by omega⟩
                    have hd3 : d < R := by omega
                    have hd4 : (d : Int) < (R : Int) := by omega
                    have cB : w7.cell? ⟨g, i + 1 + d, none⟩ = some (.int .u8 (x k)) := by
                      have hv : jn L h x (i + 1 + d) = x k := by rw [hd2, jn_ge]
                      rw [← hv]
                      exact TB.out.cell d hd3
                    have cE := (HE.out.kept HG.out.bel.block).cell k hlt
                    clear hd2
                    go_wp2_with fail
                    go_quiet (fail)
                    go_wp2
                    go_roundw
                    case rel => exact ⟨k + 1, m + nq, by omega, by go_num, rfl⟩
                    case measure => simp [intOf]; omega
                  · go_wp2
                    go_ret
                    exact ⟨rfl, ((Chg.refl (fun _ => False) w7).drewN m).below HG.out.bel HG.out.bel.size (fun _ _ x => x)⟩
end Go.Proofs.Qxb6613213aFmt
