import Derived.Test.Qxb6613862aSt2
import Derived.Deep.RegionWith
import Derived.Deep.Cut
import Derived.Deep.CutRange
import Derived.StillTailTactics
namespace Go.Proofs.Qxb6613862a
open Go.RowKit

set_option maxRecDepth 100000 in
set_option maxHeartbeats 1600000 in
theorem law5 (ao : Option Addr) (b off L cap : Nat) (hI : Nat → Int) (from_ cut body at_ : Int) (ro : Option Addr) (rb roff n rc : Nat) (D Bo Me Am : Nat → Int) (w : World)
    (hi : Ints w w.heap.size ao b off L hI) (hz : ao = none → L = 0 ∧ cap = 0) (hr : RS w w.heap.size ro rb roff n D Bo Me Am) :
    Calls Try.prog 5 #[.slice ao L cap, .int .i64 from_, .int .i64 cut, .int .i64 body, .slice ro n rc, .int .i32 at_] w fun e w' => e = .returned (.bool true) ∧ Below w.heap.size w w' := by
  have HI := hide hi
  have HZ := hide hz
  have HR := hide hr
  clear hi hz hr
  go_enter Try.func5, Try.ntmps5
  go_wp2_with fail
  refine (zz17_any ao L cap from_ cut body ro n rc at_ w).mono ?_
  rintro e w1 ⟨r, rfl, rfl⟩
  cases r
  · go_wp2
    go_ret
    exact ⟨rfl, Below.refl _ _⟩
  go_wp2_with fail
  refine (outside_any ao b off L cap hI ro n rc w _ HI.out).mono ?_
  rintro e w1 ⟨r, rfl, rfl, hout⟩
  cases r
  case true =>
    go_wp2
    go_ret
    exact ⟨rfl, Below.refl _ _⟩
  obtain ⟨hL, hn, hall⟩ := hout rfl
  have HALL := hide hall
  clear hall hout
  by_cases hneg : from_ < 0
  · go_wp2
    go_ret
    exact ⟨rfl, Below.refl _ _⟩
  obtain ⟨fr, rfl⟩ : ∃ c : Nat, from_ = c := ⟨from_.toNat, by omega⟩
  by_cases hfL : L < fr
  · go_wp2
    go_ret
    exact ⟨rfl, Below.refl _ _⟩
  by_cases hcf : cut < fr
  · go_wp2
    go_ret
    exact ⟨rfl, Below.refl _ _⟩
  obtain ⟨ct, rfl⟩ : ∃ c : Nat, cut = c := ⟨cut.toNat, by omega⟩
  by_cases hcL : L < ct
  · go_wp2
    go_ret
    exact ⟨rfl, Below.refl _ _⟩
  obtain ⟨h, HH⟩ : ∃ h : Nat → Nat, Hid (∀ i, i < L → hI i = (h i : Int) ∧ h i < n) := ⟨fun i => (hI i).toNat, fun i hi => by have := HALL.out i hi; dsimp only; omega⟩
  clear HALL
  go_wp2_with fail
  refine (clone_any ao b off L cap hI w HI.out HZ.out hL).mono ?_
  rintro e w1 ⟨ao1, b1, cap1, rfl, hc1⟩
  have HC1 : Hid (Cloned w w1 ao1 b1 L cap1 hI) := hc1
  clear hc1
  have hz1 : ao1 = none → ct = 0 ∧ cap1 = 0 := by
    rintro rfl
    rcases HC1.out.2.2 with ⟨_, h, h'⟩ | ⟨h1, _⟩
    · omega
    · cases h1
  have hcc : ct ≤ cap1 := by
    rcases HC1.out.2.2 with ⟨_, h, h'⟩ | ⟨_, h, _⟩ <;> omega
  go_wp2_with fail
  refine (clone_any ao1 b1 0 ct cap1 hI w1 (HC1.out.1.take (by omega)) hz1 (by omega)).mono ?_
  clear hz1 hcc
  rintro e w2 ⟨ao2, b2, cap2, rfl, hc2⟩
  have HC2 : Hid (Cloned w1 w2 ao2 b2 ct cap2 hI) := hc2
  clear hc2
  go_wp2_with fail
  refine (new20_any n w2 hn).mono ?_
  rintro e w3 ⟨rfl, hr3⟩
  replace hr3 := hide hr3
  go_wp2_with fail
  refine (new20_any n w3 hn).mono ?_
  rintro e w4 ⟨rfl, hr4⟩
  have HL := hide (l1_start D Bo Me Am HC1.out HC2.out (by omega) (fun i hi => (HH.out i hi).1) hr3.out hr4)
  have HHN : Hid (∀ i, i < L → h i < n) := fun i hi => (HH.out i hi).2
  clear hr4 hr3 HC1 HC2 HH HI HZ
  generalize w2.heap.size = g1 at *
  generalize w3.heap.size = g2 at *
  clear w1 w2 w3
  go_wp2
  go_loopw [16] (fun i wr => ∃ k : Nat, k ≤ n ∧ i = .int .i64 k ∧ Hid (L1 w wr ao1 b1 L cap1 ao2 b2 ct cap2 g1 g2 h n k D Bo Me Am)) (fun i _ => n - (intOf i).toNat)
  case atStart => exact ⟨0, Nat.zero_le _, rfl, HL.out⟩
  case round =>
    clear HL
    obtain ⟨k, hk, rfl, hl1⟩ := hrel
    by_cases hlt : k < n
    · obtain rfl := HR.out.at_ (by omega)
      have hRr := HR.out.kept hl1.out.1.bel.block
      have c0 := hRr.c0 k hlt
      have c1 := hRr.c1 k hlt
      have c2 := hRr.c2 k hlt
      have c3 := hRr.c3 k hlt
      clear hRr
      have HC := hide (set21_any g1 n k D Bo Me Am wr.drew hlt hl1.out.drew.2.1)
      go_upto_region 16 with fail
      go_still_tail 22, (by kernel_rfl)
      go_wp2_with fail
      refine HC.out.mono ?_
      rintro e w5 ⟨rfl, hr5, hc5⟩
      have H5 := hide (hl1.out.drew.one hr5 hc5)
      clear hr5 hc5 HC c0 c1 c2 c3
      have hRr := HR.out.kept H5.out.1.bel.block
      have c0 := hRr.c0 k hlt
      have c1 := hRr.c1 k hlt
      have c2 := hRr.c2 k hlt
      have c3 := hRr.c3 k hlt
      clear hRr
      have HC := hide (set21_any g2 n k D Bo Me Am w5.drew hlt H5.out.drew.2.2)
      go_upto_region 17 with fail
      go_still_tail 22, (by kernel_rfl)
      go_wp2_with fail
      refine HC.out.mono ?_
      rintro e w6 ⟨rfl, hr6, hc6⟩
      have H6 := hide (H5.out.drew.two hr6 hc6)
      clear hr6 hc6 HC c0 c1 c2 c3 H5
      go_wp2
      go_roundw
      case rel => exact ⟨k + 1, by omega, by go_num, H6.out⟩
      case measure => simp [intOf]; omega
    · obtain rfl : n = k := by omega
      have HA := hide hl1.out.a5
      clear hl1
      go_wp2_with fail
      have HA1 := hide (HA.out.step ((Chg.refl _ wr).alloc (.cells #[.int .i64 (fr : Int)] 3)))
      have HQ1 := hide (Cnt.new wr fr)
      refine (window10 ao1 L cap1 _).mono ?_
      rintro e w5 ⟨rfl, hw5, -, hc5⟩
      rw [World.size_alloc] at hw5
      have HC := hide ((HA1.out.step hc5).call11 hL HHN.out body at_ hw5 (by omega) (HQ1.out.kept hc5 id) (Nat.le_refl _) (by omega))
      clear hw5 hc5 HA1 HQ1
      go_wp2_with fail
      refine HC.out.mono ?_
      rintro e w6 ⟨rfl, ha6, hq6, -⟩
      clear HC HA
      have HN6 : wr.heap.size ≤ w6.heap.size := ha6.gN.2.2.2
      have HQ1L : wr.heap.size < w6.heap.size := hq6.lt
      replace ha6 := hide ha6
      replace hq6 := hide hq6
      generalize wr.heap.size = q1 at *
      clear wr
      go_wp2_with fail
      have HA1 := hide (ha6.out.step ((Chg.refl _ w6).alloc (.cells #[.int .i64 (fr : Int)] 3)))
      have HQ2 := hide (Cnt.new w6 fr)
      have HQ1 := hide (hq6.out.kept ((Chg.refl (fun _ => False) w6).alloc (.cells #[.int .i64 (fr : Int)] 3)) id)
      refine (window10 ao2 ct cap2 _).mono ?_
      rintro e w7 ⟨rfl, hw7, -, hc7⟩
      rw [World.size_alloc] at hw7
      have HC := hide ((HA1.out.step hc7).call22 hL (by omega) HHN.out body at_ hw7 (by omega) (HQ2.out.kept hc7 id) (by omega) (by omega))
      replace HQ1 := hide (HQ1.out.kept hc7 id)
      clear hw7 hc7 HA1 HQ2 hq6
      go_wp2_with fail
      refine HC.out.mono ?_
      rintro e w8 ⟨rfl, ha8, hq8, hc8⟩
      have HQ1' := hide (HQ1.out.kept hc8 (by have := ha8.gN; omega))
      clear HC HQ1 ha6 hc8
      have HN8 : q1 ≤ w8.heap.size := ha8.gN.2.2.2
      have cq8 := hq8.cell
      replace ha8 := hide ha8
      replace hq8 := hide hq8
      generalize w6.heap.size = q2 at *
      clear w6 w7
      go_wp2_with fail
      refine (window10 ao1 L cap1 _).mono ?_
      rintro e w9 ⟨rfl, hw9, -, hc9⟩
      have HC := hide ((ha8.out.step hc9).call12 hL HHN.out body at_ hw9 (by omega) (hq8.out.kept hc9 id) (by omega) (by omega))
      have HQ1 := hide (HQ1'.out.kept hc9 id)
      clear hw9 hc9 HQ1' hq8 cq8
      go_wp2_with fail
      refine HC.out.mono ?_
      rintro e w10 ⟨rfl, ha10, hq10, hc10⟩
      have HQ1' := HQ1.out.kept hc10 (by have := ha10.gN; omega)
      have cq1 := HQ1'.cell
      have cq2 := hq10.cell
      rw [bk_cut h at_ Bo (by omega) (by omega), mtg_cut body h at_ Me (by omega) (by omega)] at ha10
      replace ha10 := hide ha10
      clear HC HQ1 ha8 hq10 hc10 HQ1'
      clear HN8 w9
      go_wp2_with fail
      refine (cov_any ao1 b1 L cap1 fr n h w10 ha10.out.s.h1 (by omega) hL HHN.out hn).mono ?_
      rintro e w11 ⟨rfl, hcov, hc11⟩
      obtain ⟨B1, M1, f, HF, HB, HM⟩ : ∃ (B1 M1 : Nat → Int) (f : Nat → Bool), Hid (F5 w w11 g1 g2 n D Am B1 M1 B1 M1 w10.heap.size f w10.heap.size f) ∧ Hid (∀ i, B1 i = minIfP (Bo i) (f i) at_) ∧ Hid (∀ i, M1 i = minIfP (Me i) (f i && (body == 3)) at_) :=
        ⟨_, _, _, ⟨hc11.below ha10.out.s.bel ha10.out.s.bel.size (fun _ _ x => x), ha10.out.r1.keptC hc11 id, ha10.out.r2.keptC hc11 id, hcov, hcov⟩, fun i => bk_min .., fun i => mtg_min ..⟩
      clear hcov hc11 ha10 cq1 cq2 HN6 HQ1L
      generalize w10.heap.size = c at *
      clear w10
      go_wp2_with fail
      refine (share_any w11).mono ?_
      rintro e w12 ⟨rfl, rfl⟩
      go_wp2
      go_loopw [21] (fun i wr => ∃ k : Nat, k ≤ n ∧ i = .int .i64 k ∧ Hid (F5 w wr g1 g2 n D Am B1 M1 B1 M1 c f c f)) (fun i _ => n - (intOf i).toNat)
      case atStart => exact ⟨0, Nat.zero_le _, rfl, HF.out⟩
      case round =>
        clear HF
        obtain ⟨k, hk, rfl, hf5⟩ := hrel
        by_cases hlt : k < n
        · have hB := HB.out k
          have hM := HM.out k
          obtain rfl := HR.out.at_ (by omega)
          have HC1 := get25_any g1 n k D B1 M1 Am wr hlt hf5.out.r1
          rw [hB, hM] at HC1
          replace HC1 := hide HC1
          go_wp2_with fail
          refine HC1.out.mono ?_
          rintro e w12 ⟨rfl, hc12⟩
          have HF2 := hide (hf5.out.step hc12)
          clear hc12 hf5 HC1
          have HC1 := get25_any g2 n k D B1 M1 Am w12 hlt HF2.out.r2
          rw [hB, hM] at HC1
          replace HC1 := hide HC1
          clear hB hM
          go_wp2_with fail
          refine HC1.out.mono ?_
          rintro e w13 ⟨rfl, hc13⟩
          have HF3 := hide (HF2.out.step hc13)
          clear hc13 HF2 HC1
          have hRr := HR.out.kept HF3.out.bel.block
          have c0 := hRr.c0 k hlt
          have c1 := hRr.c1 k hlt
          have c2 := hRr.c2 k hlt
          have c3 := hRr.c3 k hlt
          clear hRr
          have cc := HF3.out.cov.cell k hlt
          cases hfk : f k
          all_goals
            rw [hfk] at cc
          all_goals clear hfk
          · go_wp2_with fail
            go_quiet ((go_at_call 26; exact Calls.quiet_of_same (minIf_same _ _ _ _)))
            go_wp2_with fail
            go_quiet ((go_at_call 26; exact (minIf_same _ _ _ _).mono fun _ _ h => ⟨h.1, _, h.2⟩))
            go_wp2
            go_roundw
            case rel => exact ⟨k + 1, by omega, by go_num, HF3.out.step ((Chg.refl _ w13).drewN _)⟩
            case measure => simp [intOf]; omega
          · go_wp2_with fail
            go_quiet ((go_at_call 26; exact Calls.quiet_of_same (minIf_same _ _ _ _)))
            go_wp2_with fail
            go_quiet ((go_at_call 26; exact (minIf_same _ _ _ _).mono fun _ _ h => ⟨h.1, _, h.2⟩))
            go_wp2
            go_roundw
            case rel => exact ⟨k + 1, by omega, by go_num, HF3.out.step ((Chg.refl _ w13).drewN _)⟩
            case measure => simp [intOf]; omega
        · obtain rfl : n = k := by omega
          go_wp2
          go_ret
          exact ⟨rfl, hf5.out.bel⟩
end Go.Proofs.Qxb6613862a
