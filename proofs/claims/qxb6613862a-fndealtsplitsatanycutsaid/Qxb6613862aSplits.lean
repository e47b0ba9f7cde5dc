import Derived.Test.Qxb6613862aSpl
namespace Go.Proofs.Qxb6613862a
open Go.RowKit


set_option maxRecDepth 100000 in
set_option maxHeartbeats 1600000 in
theorem splits (ao : Option Addr) (b off L cap : Nat) (cut : Int) (PB : Nat → ByteArray) (A : Nat → Int) (B : Nat → Bool) (w : World) (hd : Deals w w.heap.size ao b off L PB A B) :
    Calls Try.prog 4 #[.slice ao L cap, .int .i64 cut] w fun e w' => e = .returned (.bool true) ∧ Below w.heap.size w w' := by
  have HD := hide hd
  clear hd
  go_enter Try.func4, Try.ntmps4
  go_wp2_with fail
  refine (zz16_any ao b off L cap cut PB A B w _ HD.out).mono ?_
  rintro e w1 ⟨r, rfl, rfl, h5⟩
  cases r
  · go_wp2
    go_ret
    exact ⟨rfl, Below.refl _ _⟩
  have H5 := hide (h5 rfl)
  clear h5
  go_wp2_with fail
  refine (too_any ao b off L cap PB A B w _ HD.out H5.out).mono ?_
  rintro e w1 ⟨r, rfl, rfl, hL⟩
  cases r
  case true =>
    go_wp2
    go_ret
    exact ⟨rfl, Below.refl _ _⟩
  replace hL := hL rfl
  by_cases hneg : cut < 0
  · go_wp2
    go_ret
    exact ⟨rfl, Below.refl _ _⟩
  obtain ⟨c, rfl⟩ : ∃ c : Nat, cut = c := ⟨cut.toNat, by omega⟩
  by_cases hcL : L < c
  · go_wp2
    go_ret
    exact ⟨rfl, Below.refl _ _⟩
  go_wp2_with fail
  refine (newPool_any w).mono ?_
  rintro e w1 ⟨rfl, e1⟩
  replace e1 := hide e1
  go_wp2_with fail
  refine (newPool_any w1).mono ?_
  rintro e w2 ⟨rfl, e2⟩
  replace e2 := hide e2
  go_wp2_with fail
  refine (newPool_any w2).mono ?_
  rintro e w3 ⟨rfl, e3⟩
  replace e3 := hide e3
  go_wp2_with fail
  refine (newWindow_any none 0 0 _).mono ?_
  rintro e w4 ⟨rfl, rfl⟩
  go_wp2_with fail
  refine (newWindow_any none 0 0 _).mono ?_
  rintro e w5 ⟨rfl, rfl⟩
  have HS := hide (spl_start w c PB A (winNo (w.heap.size + 6) B) (.cells #[.pointer none, .slice none 0 0, .int .i64 0, .int .i64 0, .int .i64 0, .int .i64 0] 64) (.cells #[.pointer none, .slice none 0 0, .int .i64 0, .int .i64 0, .int .i64 0, .int .i64 0] 64) w1 w2 w3 e1.out e2.out e3.out)
  have s1 : w1.heap.size = w.heap.size + 3 := by rw [e1.out]; simp
  have s2 : w2.heap.size = w.heap.size + 6 := by rw [e2.out]; simp; omega
  have s3 : w3.heap.size = w.heap.size + 9 := by rw [e3.out]; simp; omega
  clear e1 e2 e3
  rw [World.size_alloc, s3, s2, s1]
  clear s1 s2 s3
  go_wp2
  go_loopw [10] (fun i wr => ∃ k : Nat, k ≤ L ∧ i = .int .i64 k ∧ Spl w.heap.size c k PB A (winNo (w.heap.size + 6) B) w wr) (fun i _ => L - (intOf i).toNat)
  case atStart => exact ⟨0, Nat.zero_le _, rfl, HS.out⟩
  case round =>
    clear HS
    obtain ⟨k, hk, rfl, hpool⟩ := hrel
    have HPK := hide hpool
    clear hpool
    by_cases hlt : k < L
    · obtain rfl := HD.out.at_ (by omega)
      have HDr := HD.out.kept HPK.out.below.block
      have hc0 := HDr.party k hlt
      have hc1 := HDr.place k hlt
      have hc2 := HDr.win k hlt
      have hsz := hide (HDr.sz k hlt)
      clear HDr
      cases hB : B k <;> rw [hB] at hc2
      · have HC := hide (HPK.out.whole (by omega) hsz.out (wb := w.heap.size + 9) (by simp [winNo, hB]))
        go_upto_region 18 with fail
        go_region_with (go_at_call 11; refine HC.out.mono ?_; intro e w' hp; obtain rfl := hp.1; replace hp := hide hp.2)
        all_goals
          clear hc0 hc1 hc2
          have HDr := HD.out.kept hp.out.below.block
          have hc0 := HDr.party k hlt
          have hc1 := HDr.place k hlt
          clear HDr
          by_cases hkc : k < c
          · have HC2 := hide (hp.out.head hkc (by omega) hsz.out (wb := w.heap.size + 9) (by simp [winNo, hB]))
            go_upto_region 20 with fail
            go_region_with (go_at_call 11; refine HC2.out.mono ?_; intro e w2 hp2; obtain rfl := hp2.1; replace hp2 := hide hp2.2)
            all_goals (go_wp2; go_round; (case rel => exact ⟨k + 1, by omega, by go_num, hp2.out⟩); (case measure => simp [intOf]; omega))
          · have HC2 := hide (hp.out.tail (by omega) (by omega) hsz.out (wb := w.heap.size + 9) (by simp [winNo, hB]))
            go_upto_region 21 with fail
            go_region_with (go_at_call 11; refine HC2.out.mono ?_; intro e w2 hp2; obtain rfl := hp2.1; replace hp2 := hide hp2.2)
            all_goals (go_wp2; go_round; (case rel => exact ⟨k + 1, by omega, by go_num, hp2.out⟩); (case measure => simp [intOf]; omega))
      · have HC := hide (HPK.out.whole (by omega) hsz.out (wb := w.heap.size + 10) (by simp [winNo, hB]))
        go_upto_region 18 with fail
        go_region_with (go_at_call 11; refine HC.out.mono ?_; intro e w' hp; obtain rfl := hp.1; replace hp := hide hp.2)
        all_goals
          clear hc0 hc1 hc2
          have HDr := HD.out.kept hp.out.below.block
          have hc0 := HDr.party k hlt
          have hc1 := HDr.place k hlt
          clear HDr
          by_cases hkc : k < c
          · have HC2 := hide (hp.out.head hkc (by omega) hsz.out (wb := w.heap.size + 10) (by simp [winNo, hB]))
            go_upto_region 20 with fail
            go_region_with (go_at_call 11; refine HC2.out.mono ?_; intro e w2 hp2; obtain rfl := hp2.1; replace hp2 := hide hp2.2)
            all_goals (go_wp2; go_round; (case rel => exact ⟨k + 1, by omega, by go_num, hp2.out⟩); (case measure => simp [intOf]; omega))
          · have HC2 := hide (hp.out.tail (by omega) (by omega) hsz.out (wb := w.heap.size + 10) (by simp [winNo, hB]))
            go_upto_region 21 with fail
            go_region_with (go_at_call 11; refine HC2.out.mono ?_; intro e w2 hp2; obtain rfl := hp2.1; replace hp2 := hide hp2.2)
            all_goals (go_wp2; go_round; (case rel => exact ⟨k + 1, by omega, by go_num, hp2.out⟩); (case measure => simp [intOf]; omega))
    · obtain rfl : k = L := by omega
      go_wp2
      go_loopw [12] (fun i wr => ∃ j : Nat, j ≤ k ∧ i = .int .i64 j ∧ Spl w.heap.size c k PB A (winNo (w.heap.size + 6) B) w wr) (fun i _ => k - (intOf i).toNat)
      case atStart => exact ⟨0, Nat.zero_le _, rfl, HPK.out⟩
      case round =>
        clear HPK
        obtain ⟨j, hj, rfl, hpool⟩ := hrel
        have HPK := hide hpool
        clear hpool
        by_cases hlt : j < k
        · obtain rfl := HD.out.at_ (by omega)
          have HDr := hide (HD.out.kept HPK.out.below.block)
          have hc0 := HDr.out.party j hlt
          obtain ⟨ao, ab, ac, ho, hb, hc, to_, tb, tc, nx, ny, X, Y, x, hw, kn, hR, hcn⟩ := HPK.out.reads (by omega) hlt (HDr.out.sz j hlt)
          have HR := hide hR
          have HN := hide hcn
          have hlk := cntAt_le (keyOfs PB) A (keyOfs PB j) k
          rw [hcn] at hlk
          clear hR hcn
          go_wp2
          go_loop [14, 15] (fun t m => ∃ q : Nat, q ≤ k ∧ m = .int .i64 q ∧ t = .int .i64 (cntAt (keyOfs PB) A q (keyOfs PB j))) (fun _ m => k - (intOf m).toNat)
          case atStart => exact ⟨0, Nat.zero_le _, rfl, rfl⟩
          case round =>
            obtain ⟨q, hq, rfl, rfl⟩ := hrel
            have hl1 := cntAt_le (keyOfs PB) A (keyOfs PB j) q
            by_cases hlq : q < k
            · have hd0 := HDr.out.party q hlq
              by_cases he : keyOfs PB q = keyOfs PB j
              · rw [key_inj he] at hd0
                have e1 := hide (cntAt_same (keyOfs PB) A he)
                go_wp2
                go_round
                case rel => exact ⟨q + 1, by omega, by go_num, by rw [e1.out]; go_num⟩
                case measure => simp [intOf]; omega
              · have hne := key_ne he
                have e1 := hide (cntAt_other (keyOfs PB) A he)
                go_wp2
                go_round
                case rel => exact ⟨q + 1, by omega, by go_num, by rw [e1.out]⟩
                case measure => simp [intOf]; omega
            · obtain rfl : q = k := by omega
              clear hl1
              rw [HN.out]
              go_wp2_with fail
              refine HR.out.ca.mono ?_
              rintro e w' ⟨rfl, rfl⟩
              go_wp2_with fail
              refine HR.out.ch.mono ?_
              rintro e w' ⟨rfl, rfl⟩
              go_wp2_with fail
              refine HR.out.ct.mono ?_
              rintro e w' ⟨rfl, rfl⟩
              go_wp2
              go_loopw [19] (fun i w' => ∃ t : Nat, t ≤ nx ∧ i = .int .i64 t ∧ ∃ m, w' = wr.drewN m) (fun i _ => nx - (intOf i).toNat)
              case atStart => exact ⟨0, Nat.zero_le _, rfl, 0, rfl⟩
              case round =>
                obtain ⟨t, ht, rfl, m, rfl⟩ := hrel
                by_cases htl : t < nx
                · obtain rfl := HR.out.ha (by omega)
                  obtain rfl := HR.out.aa (by omega)
                  have f1 := HR.out.ax t htl
                  have f2 := HR.out.hx t htl
                  go_upto_region 40 with fail
                  go_quiet (fail)
                  go_wp2
                  go_round
                  case rel => exact ⟨t + 1, by omega, by go_num, _, rfl⟩
                  case measure => simp [intOf]; omega
                · obtain rfl : t = nx := by omega
                  go_wp2
                  go_loopw [20] (fun i w' => ∃ z : Nat, z ≤ ny ∧ i = .int .i64 z ∧ ∃ m, w' = wr.drewN m) (fun i _ => ny - (intOf i).toNat)
                  case atStart => exact ⟨0, Nat.zero_le _, rfl, m, rfl⟩
                  case round =>
                    clear m
                    obtain ⟨z, hz, rfl, m, rfl⟩ := hrel
                    by_cases hzl : z < ny
                    · obtain rfl := HR.out.ta (by omega)
                      obtain rfl := HR.out.aa (by omega)
                      have f1 := HR.out.ay z hzl
                      have f2 := HR.out.ty z hzl
                      go_upto_region 45 with fail
                      go_quiet (fail)
                      go_wp2
                      go_round
                      case rel => exact ⟨z + 1, by omega, by go_num, _, rfl⟩
                      case measure => simp [intOf]; omega
                    · obtain rfl : z = ny := by omega
                      go_wp2_with fail
                      refine (HR.out.wh _).mono ?_
                      rintro e w' ⟨rfl, rfl⟩
                      go_wp2_with fail
                      refine (HR.out.kt _).mono ?_
                      rintro e w' ⟨rfl, rfl⟩
                      cases kn
                      · obtain rfl := HR.out.nk rfl
                        go_wp2_with fail
                        refine (HR.out.wa _).mono ?_
                        rintro e w' ⟨rfl, rfl⟩
                        have hpp := neq26
                        go_wp2
                        go_round
                        case rel => exact ⟨j + 1, by omega, by go_num, HPK.out.drewN _⟩
                        case measure => simp [intOf]; omega
                      · go_wp2_with fail
                        refine (HR.out.wt rfl _).mono ?_
                        rintro e w' ⟨rfl, rfl⟩
                        go_wp2_with fail
                        refine (HR.out.wa _).mono ?_
                        rintro e w' ⟨rfl, rfl⟩
                        have hpp := neq26
                        go_wp2
                        go_round
                        case rel => exact ⟨j + 1, by omega, by go_num, HPK.out.drewN _⟩
                        case measure => simp [intOf]; omega
        · obtain rfl : j = k := by omega
          obtain ⟨na, nb, nd, k1, k2, k3, k4, hA, hB, hC⟩ := HPK.out.lens (by omega)
          have HA := hide hA
          have HB := hide hB
          have HC := hide hC
          clear hA hB hC
          go_wp2_with fail
          refine HA.out.mono ?_
          rintro e w' ⟨rfl, rfl⟩
          go_wp2_with fail
          refine HB.out.mono ?_
          rintro e w' ⟨rfl, rfl⟩
          go_wp2_with fail
          refine HC.out.mono ?_
          rintro e w' ⟨rfl, rfl⟩
          go_wp2
          go_ret
          refine ⟨?_, HPK.out.below⟩
          simp
          omega
end Go.Proofs.Qxb6613862a
