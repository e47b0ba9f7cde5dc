import Derived.Test.Qxb6613862aPtr
import Derived.Deep.RegionWith
import Derived.BigQuiet
import Derived.Deep.Cut
import Derived.Deep.CutRange
namespace Go.Proofs.Qxb6613862a
open Go.RowKit

/-- The pool behind the first k deals, in a world that has turned nothing below N. -/
def PoolK (N p : Nat) (P : Nat → List UInt8) (A : Nat → Int) (V : Nat → Nat) (k : Nat) (w0 wr : World) : Prop :=
  (∃ bw bm D pb vb, Pool wr (fun j => N ≤ j) p k (Sk P A k) (Wk P V k) (Ck P A k) bw bm D pb vb) ∧ Below N w0 wr ∧ N ≤ w0.heap.size

theorem PoolK.step {N p : Nat} {P : Nat → List UInt8} {A : Nat → Int} {V : Nat → Nat} {k : Nat} {w0 wr w' : World} {e : Ending} (h : PoolK N p P A V k w0 wr)
    (hp : DPost (fun j => N ≤ j) p k (Sk P A k) (Wk P V k) (Ck P A k) (P k) (A k) (V k) wr.drew e w') : PoolK N p P A V (k + 1) w0 w' := by
  obtain ⟨-, ⟨bw, bm, D, pb, vb, hq⟩, hf⟩ := hp
  obtain ⟨-, hb, hn⟩ := h
  have hs := hb.size
  refine ⟨⟨bw, bm, D, pb, vb, hq.weaken (fun j _ hj => ?_)⟩, hb.drew.trans (hf.below (fun _ h => h) ?_), hn⟩
  · rcases hj with hj | hj
    · exact hj
    · have : wr.drew.heap.size = wr.heap.size := rfl
      omega
  · show N ≤ wr.heap.size
    omega
theorem PoolK.drew {N p : Nat} {P : Nat → List UInt8} {A : Nat → Int} {V : Nat → Nat} {k : Nat} {w0 wr : World} (h : PoolK N p P A V k w0 wr) : PoolK N p P A V k w0 wr.drew := by
  obtain ⟨⟨bw, bm, D, pb, vb, hq⟩, hb, hn⟩ := h
  exact ⟨⟨bw, bm, D, pb, vb, hq.drew⟩, hb.drew, hn⟩

theorem Pool.drewN {w : World} {I : Nat → Prop} {p n : Nat} {S : List UInt8 → List Int} {Wn : List UInt8 → Nat} {cnt bw bm : Nat} {D : DataW Unit} {pb : List UInt8 → Nat} {vb : List UInt8 → Value} (h : Pool w I p n S Wn cnt bw bm D pb vb) (m : Nat) : Pool (w.drewN m) I p n S Wn cnt bw bm D pb vb :=
  ⟨h.ip, h.im, h.ph, h.map, h.size, h.has, h.at_, h.pbh, h.row, h.dis⟩
theorem below_drewN {B : Nat} {a w : World} (h : Below B a w) (m : Nat) : Below B a (w.drewN m) := ⟨h.os, h.tape, h.output, h.size, h.block⟩
theorem PoolK.drewN {N p : Nat} {P : Nat → List UInt8} {A : Nat → Int} {V : Nat → Nat} {k : Nat} {w0 wr : World} (h : PoolK N p P A V k w0 wr) (m : Nat) : PoolK N p P A V k w0 (wr.drewN m) := by
  obtain ⟨⟨bw, bm, D, pb, vb, hq⟩, hb, hn⟩ := h
  exact ⟨⟨bw, bm, D, pb, vb, hq.drewN m⟩, below_drewN hb m, hn⟩

def keyOfs (PB : Nat → ByteArray) (i : Nat) : List UInt8 := (PB i).data.toList
def winNo (N : Nat) (B : Nat → Bool) (i : Nat) : Nat := if B i then N + 4 else N + 3
def cntAt (P : Nat → List UInt8) (A : Nat → Int) (k : Nat) (s : List UInt8) : Nat := (Sk P A k s).length
def KPost (N p : Nat) (P : Nat → List UInt8) (A : Nat → Int) (V : Nat → Nat) (k : Nat) (w0 : World) (e : Ending) (w' : World) : Prop := e = .returned (.tuple #[]) ∧ PoolK N p P A V k w0 w'

theorem PoolK.dealt {N p : Nat} {PB : Nat → ByteArray} {A : Nat → Int} {V : Nat → Nat} {k : Nat} {w0 wr : World} (h : PoolK N p (keyOfs PB) A V k w0 wr) (hk : k ≤ 100000) (hs : (PB k).size ≤ maxLen) {wb : Nat} (hv : V k = wb) :
    Calls Try.prog 11 #[.pointer (some ⟨p, 0, none⟩), .string (PB k), .pointer (some ⟨wb, 0, none⟩), .int .i32 (A k)] wr.drew (KPost N p (keyOfs PB) A V (k + 1) w0) := by
  subst hv
  obtain ⟨bw, bm, D, pb, vb, hq⟩ := h.1
  exact (zdealt_any hq.drew (PB k) (V k) (A k) hk (Nat.le_trans (Sk_len (keyOfs PB) A _ k) hk) hs).mono (fun e w' hp => ⟨hp.1, h.step hp⟩)

/-- What is read of the pool at the deal k. -/
theorem look_all {wr : World} {I : Nat → Prop} {p n L cnt bw bm : Nat} {P : Nat → List UInt8} {A : Nat → Int} {Wn : List UInt8 → Nat} {D : DataW Unit} {pb : List UInt8 → Nat} {vb : List UInt8 → Value}
    (h : Pool wr I p n (Sk P A L) Wn cnt bw bm D pb vb) {k : Nat} (hk : k < L) : Sk P A L (P k) ≠ [] ∧ cntAt P A k (P k) < cntAt P A L (P k) ∧
      ∃ g c, atOf (Sk P A L) vb (P k) = .slice (some ⟨g, 0, none⟩) (cntAt P A L (P k)) c ∧ wr.cell? ⟨g, cntAt P A k (P k), none⟩ = some (.int .i32 (A k)) := by
  obtain ⟨h1, h2⟩ := Sk_at P A hk
  have hne : Sk P A L (P k) ≠ [] := fun e => by rw [e] at h2; exact absurd h2 (Nat.not_lt_zero _)
  refine ⟨hne, h2, ?_⟩
  have hr := (h.row _ hne).1
  obtain ⟨g, c, hv, -⟩ := hr.form (by omega)
  rw [hv] at hr
  refine ⟨g, c, by unfold atOf; rw [if_neg hne, hv]; rfl, ?_⟩
  have := hr.cellAt (cntAt P A k (P k)) (by unfold cntAt; omega)
  rw [this]
  unfold cntAt
  rw [List.getElem?_map, h1]
  rfl

section
variable (P : Nat → List UInt8) (A : Nat → Int)
theorem cntAt_same {m : Nat} {s : List UInt8} (h : P m = s) : cntAt P A (m + 1) s = cntAt P A m s + 1 := by unfold cntAt; rw [Sk_same P A m h]; simp
theorem cntAt_other {m : Nat} {s : List UInt8} (h : P m ≠ s) : cntAt P A (m + 1) s = cntAt P A m s := by unfold cntAt; rw [Sk_other P A m h]
theorem before_low {m i : Nat} {s : List UInt8} (h : P m = s) (hm : m < i) : cntAt P A (min (m + 1) i) s = cntAt P A (min m i) s + 1 := by
  rw [Nat.min_eq_left (by omega), Nat.min_eq_left (by omega), cntAt_same P A h]
theorem before_high {m i : Nat} {s : List UInt8} (hm : ¬ m < i) : cntAt P A (min (m + 1) i) s = cntAt P A (min m i) s := by
  rw [Nat.min_eq_right (by omega), Nat.min_eq_right (by omega)]
theorem before_other {m i : Nat} {s : List UInt8} (h : P m ≠ s) : cntAt P A (min (m + 1) i) s = cntAt P A (min m i) s := by
  by_cases hm : m < i
  · rw [Nat.min_eq_left (by omega), Nat.min_eq_left (by omega), cntAt_other P A h]
  · exact before_high P A hm
theorem last_same {m i : Nat} {s : List UInt8} (h : P m = s) : lastK P s i (m + 1) = m := by simp [lastK, h]
theorem last_other {m i : Nat} {s : List UInt8} (h : P m ≠ s) : lastK P s i (m + 1) = lastK P s i m := by simp [lastK, h]
theorem cntAt_le (s : List UInt8) (k : Nat) : cntAt P A k s ≤ k := Sk_len P A s k
theorem Ck_new {k : Nat} (h : cntAt P A k (P k) = 0) : Ck P A (k + 1) = Ck P A k + 1 := by
  show (if Sk P A k (P k) = [] then _ else _) = _
  rw [if_pos (List.length_eq_zero_iff.1 h)]
theorem Ck_old {k : Nat} (h : cntAt P A k (P k) ≠ 0) : Ck P A (k + 1) = Ck P A k := by
  show (if Sk P A k (P k) = [] then _ else _) = _
  rw [if_neg (fun e => h (by unfold cntAt; rw [e]; rfl))]
theorem Ck_le : ∀ k, Ck P A k ≤ k
  | 0 => Nat.le_refl _
  | k + 1 => by
    have := Ck_le k
    show (if Sk P A k (P k) = [] then _ else _) ≤ _
    split <;> omega
end
theorem key_ne {PB : Nat → ByteArray} {i j : Nat} (h : keyOfs PB i ≠ keyOfs PB j) : ((PB i).toList == (PB j).toList) = false := by
  rw [ByteArray.toList_eq, ByteArray.toList_eq]
  simpa [keyOfs] using h
theorem key_inj {PB : Nat → ByteArray} {i j : Nat} (h : keyOfs PB i = keyOfs PB j) : PB i = PB j := by
  unfold keyOfs at h
  cases hi : PB i with | mk a => cases hj : PB j with | mk b =>
    rw [hi, hj] at h
    cases a; cases b
    simp at h
    rw [h]

set_option maxRecDepth 100000 in
set_option maxHeartbeats 800000 in
theorem keeps (ao : Option Addr) (b off L cap : Nat) (PB : Nat → ByteArray) (A : Nat → Int) (B : Nat → Bool) (w : World) (hd : Deals w w.heap.size ao b off L PB A B) :
    Calls Try.prog 3 #[.slice ao L cap] w fun e w' => e = .returned (.bool true) ∧ Below w.heap.size w w' := by
  have HD := hide hd
  clear hd
  go_enter Try.func3, Try.ntmps3
  go_wp2_with fail
  refine (zz7_any ao b off L cap PB A B w _ HD.out).mono ?_
  rintro e w1 ⟨r, rfl, rfl, h5⟩
  cases r
  · go_wp2
    go_ret
    exact ⟨rfl, Below.refl _ _⟩
  have H5 := hide (h5 rfl)
  clear h5
  go_wp2_with fail
  refine (too_any ao b off L cap PB A B w _ HD.out H5.out).mono ?_
  rintro e w1 ⟨r, rfl, rfl, hL⟩
  cases r
  case true =>
    go_wp2
    go_ret
    exact ⟨rfl, Below.refl _ _⟩
  replace hL := hL rfl
  go_wp2_with fail
  refine (newPool_any w).mono ?_
  intro e w1 hp
  have hN := hide (pool_fresh w (fun _ => 0))
  obtain ⟨rfl, rfl⟩ := hp
  go_wp2_with fail
  refine (newWindow_any none 0 0 _).mono ?_
  rintro e w1 ⟨rfl, rfl⟩
  go_wp2_with fail
  refine (newWindow_any none 0 0 _).mono ?_
  rintro e w1 ⟨rfl, rfl⟩
  go_wp2
  go_loopw [6] (fun i wr => ∃ k : Nat, k ≤ L ∧ i = .int .i64 k ∧ PoolK w.heap.size (w.heap.size + 2) (keyOfs PB) A (winNo w.heap.size B) k w wr) (fun i _ => L - (intOf i).toNat)
  case atStart =>
    refine ⟨0, Nat.zero_le _, rfl, ⟨_, _, _, _, _, ((hN.out.kept (fun k hk _ => ?_)).weaken (fun k _ hk => ?_))⟩, ?_, Nat.le_refl _⟩
    · simp only [World.size_alloc] at hk
      rw [Below.heap_alloc _ _ _ (by simp; omega), Below.heap_alloc _ _ _ (by simp; omega)]
    · exact Nat.le_of_lt hk.1
    · exact ((((((Below.refl _ _).alloc (by simp) _).alloc (by simp) _).alloc (by simp; omega) _).alloc (by simp; omega) _).alloc (by simp; omega) _)
  case round =>
    clear hN
    obtain ⟨k, hk, rfl, hpool⟩ := hrel
    have HPK := hide hpool
    clear hpool
    by_cases hlt : k < L
    · obtain rfl := HD.out.at_ (by omega)
      have HDr := HD.out.kept HPK.out.2.1.block
      have hc0 := HDr.party k hlt
      have hc1 := HDr.place k hlt
      have hc2 := HDr.win k hlt
      have hsz := hide (HDr.sz k hlt)
      clear HDr
      cases hB : B k
      · rw [hB] at hc2
        have HC := hide (HPK.out.dealt (by omega) hsz.out (wb := w.heap.size + 3) (by simp [winNo, hB]))
        go_upto_region 14 with fail
        go_region_with (go_at_call 11; refine HC.out.mono ?_; intro e w' hp; obtain rfl := hp.1; replace hp := hide hp.2)
        all_goals (go_wp2; go_round; (case rel => exact ⟨k + 1, by omega, by go_num, hp.out⟩); (case measure => simp [intOf]; omega))
      · rw [hB] at hc2
        have HC := hide (HPK.out.dealt (by omega) hsz.out (wb := w.heap.size + 4) (by simp [winNo, hB]))
        go_upto_region 14 with fail
        go_region_with (go_at_call 11; refine HC.out.mono ?_; intro e w' hp; obtain rfl := hp.1; replace hp := hide hp.2)
        all_goals (go_wp2; go_round; (case rel => exact ⟨k + 1, by omega, by go_num, hp.out⟩); (case measure => simp [intOf]; omega))
    · obtain rfl : k = L := by omega
      go_wp2
      go_loopw [8, 9] (fun dt i wr => ∃ j : Nat, j ≤ k ∧ i = .int .i64 j ∧ dt = .int .i64 (Ck (keyOfs PB) A j) ∧ PoolK w.heap.size (w.heap.size + 2) (keyOfs PB) A (winNo w.heap.size B) k w wr) (fun _ i _ => k - (intOf i).toNat)
      case atStart => exact ⟨0, Nat.zero_le _, rfl, rfl, HPK.out⟩
      case round =>
        clear HPK
        obtain ⟨j, hj, rfl, rfl, hpool⟩ := hrel
        have HPK := hide hpool
        clear hpool
        have hCk := Ck_le (keyOfs PB) A j
        have hCL := Ck_le (keyOfs PB) A k
        by_cases hlt : j < k
        · obtain rfl := HD.out.at_ (by omega)
          have HDr := hide (HD.out.kept HPK.out.2.1.block)
          have hc0 := HDr.out.party j hlt
          have hc1 := HDr.out.place j hlt
          go_wp2
          go_loop [11, 12, 13, 14] (fun b t l m => ∃ q : Nat, q ≤ k ∧ m = .int .i64 q ∧ b = .int .i64 (cntAt (keyOfs PB) A (min q j) (keyOfs PB j)) ∧ t = .int .i64 (cntAt (keyOfs PB) A q (keyOfs PB j)) ∧ l = .int .i64 (lastK (keyOfs PB) (keyOfs PB j) j q)) (fun _ _ _ m => k - (intOf m).toNat)
          case atStart => exact ⟨0, Nat.zero_le _, rfl, by rw [Nat.zero_min]; rfl, rfl, rfl⟩
          case round =>
            obtain ⟨q, hq, rfl, rfl, rfl, rfl⟩ := hrel
            have hl1 := cntAt_le (keyOfs PB) A (keyOfs PB j) q
            have hl2 := cntAt_le (keyOfs PB) A (keyOfs PB j) (min q j)
            have hl3 : min q j ≤ j := Nat.min_le_right _ _
            by_cases hlq : q < k
            · have hd0 := HDr.out.party q hlq
              by_cases he : keyOfs PB q = keyOfs PB j
              · rw [key_inj he] at hd0
                have e1 := hide (cntAt_same (keyOfs PB) A he)
                have e3 := hide (last_same (keyOfs PB) (i := j) he)
                by_cases hqj : q < j
                · have e2 := hide (before_low (keyOfs PB) A he hqj)
                  go_wp2
                  go_round
                  case rel => exact ⟨q + 1, by omega, by go_num, by rw [e2.out]; go_num, by rw [e1.out]; go_num, by rw [e3.out]⟩
                  case measure => simp [intOf]; omega
                · have e2 := hide (before_high (keyOfs PB) A (s := keyOfs PB j) hqj)
                  go_wp2
                  go_round
                  case rel => exact ⟨q + 1, by omega, by go_num, by rw [e2.out], by rw [e1.out]; go_num, by rw [e3.out]⟩
                  case measure => simp [intOf]; omega
              · have hne := key_ne he
                have e1 := hide (cntAt_other (keyOfs PB) A he)
                have e2 := hide (before_other (keyOfs PB) A (i := j) he)
                have e3 := hide (last_other (keyOfs PB) (i := j) he)
                go_wp2
                go_round
                case rel => exact ⟨q + 1, by omega, by go_num, by rw [e2.out], by rw [e1.out], by rw [e3.out]⟩
                case measure => simp [intOf]; omega
            · obtain rfl : q = k := by omega
              clear hl1 hl2 hl3
              rw [Nat.min_eq_right hj]
              obtain ⟨bw, bm, D, pb, vb, hq⟩ := HPK.out.1
              have HQ := hide hq
              clear hq
              obtain ⟨n1, n2, g, c, n3, n4⟩ := look_all HQ.out hlt
              obtain ⟨n5, n6⟩ := Wk_last (keyOfs PB) A (winNo w.heap.size B) (keyOfs PB j) j q n1
              have n7 := HDr.out.win _ n6
              have hszj := hide (HDr.out.sz j hlt)
              have hcq := cntAt_le (keyOfs PB) A (keyOfs PB j) q
              have HK := hide (known_any HQ.out (PB j) hszj.out)
              have HA := hide (partyAt_any HQ.out (PB j) hszj.out)
              have ek : (PB j).data.toList = keyOfs PB j := rfl
              rw [ek, isEmpty_false n1] at HK
              rw [ek, n3] at HA
              have HW : Hid (∀ nq, Calls Try.prog 14 #[.pointer (some ⟨w.heap.size + 2, 0, none⟩), .string (PB j)] (wr.drewN nq) fun e w' => e = .returned (.pointer (some ⟨winNo w.heap.size B (lastK (keyOfs PB) (keyOfs PB j) j q), 0, none⟩)) ∧ wr.drewN nq = w') := by
                intro nq
                have h := partyWin_any (HQ.out.drewN nq) (PB j) hszj.out
                rw [ek, winOf, if_neg n1, n5] at h
                exact h
              clear n1 n3 n5 ek
              have HC0 : Hid (cntAt (keyOfs PB) A j (keyOfs PB j) = 0 → Ck (keyOfs PB) A (j + 1) = Ck (keyOfs PB) A j + 1) := Ck_new (keyOfs PB) A
              have HC1 : Hid (cntAt (keyOfs PB) A j (keyOfs PB j) ≠ 0 → Ck (keyOfs PB) A (j + 1) = Ck (keyOfs PB) A j) := Ck_old (keyOfs PB) A
              generalize lastK (keyOfs PB) (keyOfs PB j) j q = la at *
              generalize cntAt (keyOfs PB) A j (keyOfs PB j) = be at *
              generalize cntAt (keyOfs PB) A q (keyOfs PB j) = tot at *
              have HD' : ∃ d, Ck (keyOfs PB) A (j + 1) = d ∧ ((be = 0 ∧ d = Ck (keyOfs PB) A j + 1) ∨ (be ≠ 0 ∧ d = Ck (keyOfs PB) A j)) := by
                by_cases h : be = 0
                · exact ⟨_, rfl, .inl ⟨h, HC0.out h⟩⟩
                · exact ⟨_, rfl, .inr ⟨h, HC1.out h⟩⟩
              obtain ⟨d, hd1, hd2⟩ := HD'
              have HD1 := hide hd1
              clear hd1 HC0 HC1
              have HW' : Hid (∃ x, winNo w.heap.size B la = x ∧ ((B la = true ∧ x = w.heap.size + 4) ∨ (B la = false ∧ x = w.heap.size + 3))) := by
                cases hB : B la
                · exact ⟨_, rfl, .inr ⟨rfl, by simp [winNo, hB]⟩⟩
                · exact ⟨_, rfl, .inl ⟨rfl, by simp [winNo, hB]⟩⟩
              obtain ⟨x, hx1, hx2⟩ := HW'.out
              rw [hx1] at HW
              clear hx1 HW'
              rcases hd2 with ⟨rfl, rfl⟩ | ⟨hbe, rfl⟩ <;> rcases hx2 with ⟨hB, rfl⟩ | ⟨hB, rfl⟩ <;> rw [hB] at n7
              · go_wp2_with fail
                refine HK.out.mono ?_
                rintro e w' ⟨rfl, rfl⟩
                go_wp2_with fail
                refine HA.out.mono ?_
                rintro e w' ⟨rfl, rfl⟩
                go_upto_region 36 with fail
                go_quiet (fail)
                go_wp2_with fail
                refine (HW.out _).mono ?_
                rintro e w' ⟨rfl, rfl⟩
                have hpp := neq26
                go_wp2
                go_round
                case rel => exact ⟨j + 1, by omega, by go_num, by rw [HD1.out]; go_num, HPK.out.drewN _⟩
                case measure => simp [intOf]; omega
              · go_wp2_with fail
                refine HK.out.mono ?_
                rintro e w' ⟨rfl, rfl⟩
                go_wp2_with fail
                refine HA.out.mono ?_
                rintro e w' ⟨rfl, rfl⟩
                go_upto_region 36 with fail
                go_quiet (fail)
                go_wp2_with fail
                refine (HW.out _).mono ?_
                rintro e w' ⟨rfl, rfl⟩
                have hpp := neq26
                go_wp2
                go_round
                case rel => exact ⟨j + 1, by omega, by go_num, by rw [HD1.out]; go_num, HPK.out.drewN _⟩
                case measure => simp [intOf]; omega
              · go_wp2_with fail
                refine HK.out.mono ?_
                rintro e w' ⟨rfl, rfl⟩
                go_wp2_with fail
                refine HA.out.mono ?_
                rintro e w' ⟨rfl, rfl⟩
                go_upto_region 36 with fail
                go_quiet (fail)
                go_wp2_with fail
                refine (HW.out _).mono ?_
                rintro e w' ⟨rfl, rfl⟩
                have hpp := neq26
                go_wp2
                go_round
                case rel => exact ⟨j + 1, by omega, by go_num, by rw [HD1.out], HPK.out.drewN _⟩
                case measure => simp [intOf]; omega
              · go_wp2_with fail
                refine HK.out.mono ?_
                rintro e w' ⟨rfl, rfl⟩
                go_wp2_with fail
                refine HA.out.mono ?_
                rintro e w' ⟨rfl, rfl⟩
                go_upto_region 36 with fail
                go_quiet (fail)
                go_wp2_with fail
                refine (HW.out _).mono ?_
                rintro e w' ⟨rfl, rfl⟩
                have hpp := neq26
                go_wp2
                go_round
                case rel => exact ⟨j + 1, by omega, by go_num, by rw [HD1.out], HPK.out.drewN _⟩
                case measure => simp [intOf]; omega
        · obtain rfl : j = k := by omega
          obtain ⟨bw, bm, D, pb, vb, hq⟩ := HPK.out.1
          have HL := hide (len_any hq)
          clear hq
          go_wp2_with fail
          refine HL.out.mono ?_
          rintro e w' ⟨rfl, rfl⟩
          go_wp2
          go_ret
          exact ⟨rfl, HPK.out.2.1⟩
end Go.Proofs.Qxb6613862a
