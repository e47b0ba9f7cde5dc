import Derived.Test.Qxb6613862aSt2
import Derived.Deep.RegionWith
import Derived.Deep.Cut
import Derived.Deep.CutRange
import Derived.StillTailTactics
namespace Go.Proofs.Qxb6613862a
open Go.RowKit

theorem cloned_none (w : World) (hI : Nat → Int) : Cloned w w none 0 0 0 hI :=
  ⟨⟨fun h => absurd h (Nat.lt_irrefl _), fun h => absurd h (Nat.lt_irrefl _), fun _ h => absurd h (Nat.not_lt_zero _), fun _ h => absurd h (Nat.not_lt_zero _)⟩, Below.refl _ _, .inl ⟨rfl, rfl, rfl⟩⟩
theorem Chg.cell {G : Nat → Prop} {w w' : World} {p i : Nat} {v : Value} (c : Chg G w w') (hp : ¬ G p) (h : w.cell? ⟨p, i, none⟩ = some v) : w'.cell? ⟨p, i, none⟩ = some v :=
  cell_block (c.block p (World.block_lt_of_cell? _ _ h) hp) h
theorem min_swap (x : Int) (p q : Bool) (a b : Int) : minIfP (minIfP x p a) q b = minIfP (minIfP x q b) p a := by
  cases p <;> cases q <;> simp [minIfP]
  omega
theorem bk_swap (h : Nat → Nat) (fa fb ka kb : Nat) (a b : Int) (Bo : Nat → Int) : bk h fa a (bk h fb b Bo kb) ka = bk h fb b (bk h fa a Bo ka) kb := by
  funext i
  rw [bk_min, bk_min, bk_min, bk_min, min_swap]
theorem mtg_swap (ba bb : Int) (h : Nat → Nat) (fa fb ka kb : Nat) (a b : Int) (Bo : Nat → Int) : mtg ba h fa a (mtg bb h fb b Bo kb) ka = mtg bb h fb b (mtg ba h fa a Bo ka) kb := by
  funext i
  rw [mtg_min, mtg_min, mtg_min, mtg_min, min_swap]

set_option maxRecDepth 100000 in
set_option maxHeartbeats 1600000 in
theorem law6 (ao : Option Addr) (b off L cap : Nat) (hI : Nat → Int) (fromA bodyA atA fromB bodyB atB : Int) (ro : Option Addr) (rb roff n rc : Nat) (D Bo Me Am : Nat → Int) (w : World)
    (hi : Ints w w.heap.size ao b off L hI) (hz : ao = none → L = 0 ∧ cap = 0) (hr : RS w w.heap.size ro rb roff n D Bo Me Am) :
    Calls Try.prog 6 #[.slice ao L cap, .int .i64 fromA, .int .i64 bodyA, .int .i32 atA, .int .i64 fromB, .int .i64 bodyB, .int .i32 atB, .slice ro n rc] w fun e w' => e = .returned (.bool true) ∧ Below w.heap.size w w' := by
  have HI := hide hi
  have HZ := hide hz
  have HR := hide hr
  clear hi hz hr
  go_enter Try.func6, Try.ntmps6
  go_wp2_with fail
  refine (zz27_any ao L cap fromA bodyA atA fromB bodyB atB ro n rc w).mono ?_
  rintro e w1 ⟨r, rfl, rfl⟩
  cases r
  · go_wp2
    go_ret
    exact ⟨rfl, Below.refl _ _⟩
  go_wp2_with fail
  refine (outside_any ao b off L cap hI ro n rc w _ HI.out).mono ?_
  rintro e w1 ⟨r, rfl, rfl, hout⟩
  cases r
  case true =>
    go_wp2
    go_ret
    exact ⟨rfl, Below.refl _ _⟩
  obtain ⟨hL, hn, hall⟩ := hout rfl
  have HALL := hide hall
  clear hall hout
  by_cases hna : fromA < 0
  · go_wp2
    go_ret
    exact ⟨rfl, Below.refl _ _⟩
  obtain ⟨fa, rfl⟩ : ∃ c : Nat, fromA = c := ⟨fromA.toNat, by omega⟩
  by_cases hfa : L < fa
  · go_wp2
    go_ret
    exact ⟨rfl, Below.refl _ _⟩
  by_cases hnb : fromB < 0
  · go_wp2
    go_ret
    exact ⟨rfl, Below.refl _ _⟩
  obtain ⟨fb, rfl⟩ : ∃ c : Nat, fromB = c := ⟨fromB.toNat, by omega⟩
  by_cases hfb : L < fb
  · go_wp2
    go_ret
    exact ⟨rfl, Below.refl _ _⟩
  obtain ⟨h, HH⟩ : ∃ h : Nat → Nat, Hid (∀ i, i < L → hI i = (h i : Int) ∧ h i < n) := ⟨fun i => (hI i).toNat, fun i hi => by have := HALL.out i hi; dsimp only; omega⟩
  clear HALL
  go_wp2_with fail
  refine (clone_any ao b off L cap hI w HI.out HZ.out hL).mono ?_
  rintro e w1 ⟨ao1, b1, cap1, rfl, hc1⟩
  have HC1 : Hid (Cloned w w1 ao1 b1 L cap1 hI) := hc1
  clear hc1
  go_wp2_with fail
  refine (new20_any n w1 hn).mono ?_
  rintro e w3 ⟨rfl, hr3⟩
  replace hr3 := hide hr3
  go_wp2_with fail
  refine (new20_any n w3 hn).mono ?_
  rintro e w4 ⟨rfl, hr4⟩
  have HL := hide (l1_start D Bo Me Am HC1.out (cloned_none w1 hI) (Nat.zero_le _) (fun i hi => (HH.out i hi).1) hr3.out hr4)
  have HHN : Hid (∀ i, i < L → h i < n) := fun i hi => (HH.out i hi).2
  clear hr4 hr3 HC1 HH HI HZ
  generalize w1.heap.size = g1 at *
  generalize w3.heap.size = g2 at *
  clear w1 w3
  go_wp2
  go_loopw [19] (fun i wr => ∃ k : Nat, k ≤ n ∧ i = .int .i64 k ∧ Hid (L1 w wr ao1 b1 L cap1 none 0 0 0 g1 g2 h n k D Bo Me Am)) (fun i _ => n - (intOf i).toNat)
  case atStart => exact ⟨0, Nat.zero_le _, rfl, HL.out⟩
  case round =>
    clear HL
    obtain ⟨k, hk, rfl, hl1⟩ := hrel
    by_cases hlt : k < n
    · obtain rfl := HR.out.at_ (by omega)
      have hRr := HR.out.kept hl1.out.1.bel.block
      have c0 := hRr.c0 k hlt
      have c1 := hRr.c1 k hlt
      have c2 := hRr.c2 k hlt
      have c3 := hRr.c3 k hlt
      clear hRr
      have HC := hide (set21_any g1 n k D Bo Me Am wr.drew hlt hl1.out.drew.2.1)
      go_upto_region 13 with fail
      go_still_tail 22, (by kernel_rfl)
      go_wp2_with fail
      refine HC.out.mono ?_
      rintro e w5 ⟨rfl, hr5, hc5⟩
      have H5 := hide (hl1.out.drew.one hr5 hc5)
      clear hr5 hc5 HC c0 c1 c2 c3
      have hRr := HR.out.kept H5.out.1.bel.block
      have c0 := hRr.c0 k hlt
      have c1 := hRr.c1 k hlt
      have c2 := hRr.c2 k hlt
      have c3 := hRr.c3 k hlt
      clear hRr
      have HC := hide (set21_any g2 n k D Bo Me Am w5.drew hlt H5.out.drew.2.2)
      go_upto_region 14 with fail
      go_still_tail 22, (by kernel_rfl)
      go_wp2_with fail
      refine HC.out.mono ?_
      rintro e w6 ⟨rfl, hr6, hc6⟩
      have H6 := hide (H5.out.drew.two hr6 hc6)
      clear hr6 hc6 HC c0 c1 c2 c3 H5
      go_wp2
      go_roundw
      case rel => exact ⟨k + 1, by omega, by go_num, H6.out⟩
      case measure => simp [intOf]; omega
    · obtain rfl : n = k := by omega
      have HA := hide hl1.out.a5
      clear hl1
      go_wp2_with fail
      refine (window10 ao1 L cap1 _).mono ?_
      rintro e w5 ⟨rfl, hw5, hs5, hc5⟩
      replace HA := hide (HA.out.step hc5)
      replace hw5 := hide hw5
      clear hc5
      generalize wr.heap.size = N at *
      clear wr
      go_wp2_with fail
      have hca : Chg (fun _ => False) w5 ((w5.alloc (.cells #[.int .i64 (fa : Int)] 3)).alloc (.cells #[.int .i64 (fb : Int)] 3)) := ((Chg.refl _ w5).alloc _).alloc _
      have HQA := hide ((Cnt.new w5 fa).kept ((Chg.refl (fun _ => False) _).alloc (.cells #[.int .i64 (fb : Int)] 3)) id)
      have hqb := Cnt.new (w5.alloc (.cells #[.int .i64 (fa : Int)] 3)) fb
      rw [World.size_alloc] at hqb
      have HQB := hide hqb
      have HP := hide (hca.cell id hw5.out)
      have HC := hide ((HA.out.step hca).call11 hL HHN.out bodyA atA HP.out (Nat.le_refl _) HQA.out (Nat.le_of_lt hs5) (by omega))
      clear hqb hca HA hw5
      refine HC.out.mono ?_
      rintro e w6 ⟨rfl, ha6, hq6, hc6⟩
      have hg6 := ha6.gN
      have HP6 := hide (hc6.cell (by omega) HP.out)
      have HQB6 := hide (HQB.out.kept hc6 (by omega))
      replace ha6 := hide ha6
      replace hq6 := hide hq6
      clear HC HP HQB HQA hc6
      generalize w5.heap.size = qa at *
      clear w5
      have HC := hide (ha6.out.call11 hL HHN.out bodyB atB HP6.out (Nat.le_refl _) HQB6.out (by omega) (by omega))
      go_wp2_with fail
      refine HC.out.mono ?_
      rintro e w7 ⟨rfl, ha7, hq7, hc7⟩
      have hg7 := ha7.gN
      have HP7 := hide (hc7.cell (by omega) HP6.out)
      have HQA7 := hide (hq6.out.kept hc7 (by omega))
      have hl7 := hq7.lt
      replace ha7 := hide ha7
      replace hq7 := hide hq7
      clear HC HP6 hq6 ha6 hc7 hg6
      go_wp2_with fail
      have hca : Chg (fun _ => False) w7 ((w7.alloc (.cells #[.int .i64 (fa : Int)] 3)).alloc (.cells #[.int .i64 (fb : Int)] 3)) := ((Chg.refl _ w7).alloc _).alloc _
      have HQA2 := hide ((Cnt.new w7 fa).kept ((Chg.refl (fun _ => False) _).alloc (.cells #[.int .i64 (fb : Int)] 3)) id)
      have hqb := Cnt.new (w7.alloc (.cells #[.int .i64 (fa : Int)] 3)) fb
      rw [World.size_alloc] at hqb
      have HP := hide (hca.cell id HP7.out)
      have HQA := hide (HQA7.out.kept hca id)
      have HQB := hide (hq7.out.kept hca id)
      have HC := hide ((ha7.out.step hca).call12 hL HHN.out bodyB atB HP.out (Nat.le_refl _) hqb (by omega) (by omega))
      clear hqb hca
      refine HC.out.mono ?_
      rintro e w8 ⟨rfl, ha8, hq8, hc8⟩
      have hg8 := ha8.gN
      have HP8 := hide (hc8.cell (by omega) HP.out)
      have HQA8 := hide (HQA.out.kept hc8 (by omega))
      have HQB8 := hide (HQB.out.kept hc8 (by omega))
      have HQA28 := hide (HQA2.out.kept hc8 (by omega))
      replace ha8 := hide ha8
      replace hq8 := hide hq8
      clear HC HP HQA HQB HQA2 hc8 ha7 hq7 HP7 HQA7
      generalize w7.heap.size = qc at *
      clear w7
      have HC := hide (ha8.out.call12 hL HHN.out bodyA atA HP8.out (Nat.le_refl _) HQA28.out (by omega) (by omega))
      go_wp2_with fail
      refine HC.out.mono ?_
      rintro e w9 ⟨rfl, ha9, hq9, hc9⟩
      have hg9 := ha9.gN
      have ca1 := (HQA8.out.kept hc9 (by omega)).cell
      have cb1 := (HQB8.out.kept hc9 (by omega)).cell
      have cb2 := (hq8.out.kept hc9 (by omega)).cell
      have ca2 := hq9.cell
      rw [bk_swap h fa fb (L - fa) (L - fb) atA atB Bo, mtg_swap bodyA bodyB h fa fb (L - fa) (L - fb) atA atB Me] at ha9
      replace ha9 := hide ha9
      clear HC HP8 HQA8 HQB8 HQA28 hc9 ha8 hq8 hq9 hg9 hg8 hg7
      go_wp2_with fail
      refine (cov_any ao1 b1 L cap1 fa n h w9 ha9.out.s.h1 (by omega) hL HHN.out hn).mono ?_
      rintro e w10 ⟨rfl, hcov, hc10⟩
      replace ha9 := hide (ha9.out.step hc10)
      replace hcov := hide hcov
      clear hc10 ca1 cb1 ca2 cb2
      generalize w9.heap.size = c1 at *
      clear w9
      go_wp2_with fail
      refine (cov_any ao1 b1 L cap1 fb n h w10 ha9.out.s.h1 (by omega) hL HHN.out hn).mono ?_
      rintro e w11 ⟨rfl, hcov2, hc11⟩
      obtain ⟨B1, M1, f, f', HF, HB, HM⟩ : ∃ (B1 M1 : Nat → Int) (f f' : Nat → Bool), Hid (F5 w w11 g1 g2 n D Am B1 M1 B1 M1 c1 f w10.heap.size f') ∧ Hid (∀ i, B1 i = minIfP (minIfP (Bo i) (f i) atA) (f' i) atB) ∧ Hid (∀ i, M1 i = minIfP (minIfP (Me i) (f i && (bodyA == 3)) atA) (f' i && (bodyB == 3)) atB) :=
        ⟨_, _, _, _, ⟨hc11.below ha9.out.s.bel ha9.out.s.bel.size (fun _ _ x => x), ha9.out.r1.keptC hc11 id, ha9.out.r2.keptC hc11 id, hcov.out.keptC hc11 id, hcov2⟩, fun i => by rw [bk_min, bk_min], fun i => by rw [mtg_min, mtg_min]⟩
      clear hcov hcov2 hc11 ha9
      generalize w10.heap.size = c2 at *
      clear w10
      go_wp2_with fail
      refine (share_any w11).mono ?_
      rintro e w12 ⟨rfl, rfl⟩
      go_wp2
      go_loopw [29] (fun i wr => ∃ k : Nat, k ≤ n ∧ i = .int .i64 k ∧ Hid (F5 w wr g1 g2 n D Am B1 M1 B1 M1 c1 f c2 f')) (fun i _ => n - (intOf i).toNat)
      case atStart => exact ⟨0, Nat.zero_le _, rfl, HF.out⟩
      case round =>
        clear HF
        obtain ⟨k, hk, rfl, hf5⟩ := hrel
        by_cases hlt : k < n
        · have hB := HB.out k
          have hM := HM.out k
          obtain rfl := HR.out.at_ (by omega)
          have HC1 := get25_any g1 n k D B1 M1 Am wr hlt hf5.out.r1
          rw [hB, hM] at HC1
          replace HC1 := hide HC1
          go_wp2_with fail
          refine HC1.out.mono ?_
          rintro e w12 ⟨rfl, hc12⟩
          have HF2 := hide (hf5.out.step hc12)
          clear hc12 hf5 HC1
          have HC1 := get25_any g2 n k D B1 M1 Am w12 hlt HF2.out.r2
          rw [hB, hM] at HC1
          replace HC1 := hide HC1
          clear hB hM
          go_wp2_with fail
          refine HC1.out.mono ?_
          rintro e w13 ⟨rfl, hc13⟩
          have HF3 := hide (HF2.out.step hc13)
          clear hc13 HF2 HC1
          have hRr := HR.out.kept HF3.out.bel.block
          have c0 := hRr.c0 k hlt
          have c1 := hRr.c1 k hlt
          have c2 := hRr.c2 k hlt
          have c3 := hRr.c3 k hlt
          clear hRr
          have cc := HF3.out.cov.cell k hlt
          have cc' := HF3.out.cov'.cell k hlt
          cases hfk : f k <;> cases hfk' : f' k <;> rw [hfk] at cc <;> rw [hfk'] at cc' <;> clear hfk hfk'
          all_goals as_aux_lemma =>
            go_wp2_with fail
            go_quiet ((go_at_call 26; exact Calls.quiet_of_same (minIf_same _ _ _ _)))
            go_wp2_with fail
            go_quiet ((go_at_call 26; exact (minIf_same _ _ _ _).mono fun _ _ h => ⟨h.1, _, h.2⟩))
            go_wp2
            go_roundw
            case rel => exact ⟨k + 1, by omega, by go_num, HF3.out.step ((Chg.refl _ w13).drewN _)⟩
            case measure => simp [intOf]; omega
        · obtain rfl : n = k := by omega
          go_wp2
          go_ret
          exact ⟨rfl, hf5.out.bel⟩
end Go.Proofs.Qxb6613862a
