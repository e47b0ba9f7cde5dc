import Derived.Test.Qxb6613862aAppr
namespace Go.Proofs.Qxb6613862a
open Go.RowKit

theorem bk_succ (h : Nat → Nat) (fr : Nat) (at_ : Int) (Bo : Nat → Int) (k j : Nat) : bk h fr at_ Bo (k + 1) j = if j = h (fr + k) then min (bk h fr at_ Bo k (h (fr + k))) at_ else bk h fr at_ Bo k j := by
  conv => lhs; unfold bk
  split
  · rename_i e; rw [e]
  · rfl

theorem done0 {g q n L : Nat} {h : Nat → Nat} {body at_ : Int} {D Bo Me Am : Nat → Int} {w : World} (hq : w.heap[q]? = some (.cells #[.int .i64 L] 3 (0, 0))) (hR : Rt w g n n D Bo Me Am) (hqg : q ≠ g) (nq : Nat) :
    ApPost g q n L L h body at_ D Bo Me Am w (.returned (.tuple #[])) ((w.drewN nq).setCell ⟨q, 0, none⟩ (.int .i64 L)) := by
  have hm : mtg body h L at_ Me 0 = Me := by unfold mtg; split <;> rfl
  have hs : L - L = 0 := by omega
  refine ⟨rfl, ?_, ?_, ((Chg.refl _ w).drewN _).setCell (.inl (.inr rfl)) _⟩
  · rw [hs, hm]
    exact hR.kept (heap_setCell_other _ _ _ _ (Ne.symm hqg))
  · rw [heap_setCell_same (w.drewN nq) q 0 _ 3 _ hq]
    rfl

set_option maxHeartbeats 1600000 in
theorem approve29 (p q g n : Nat) (ao : Option Addr) (b L cap fr : Nat) (h : Nat → Nat) (body at_ : Int) (D Bo Me Am : Nat → Int) (w : World)
    (hp : w.cell? ⟨p, 1, none⟩ = some (.slice ao L cap)) (hq : w.heap[q]? = some (.cells #[.int .i64 fr] 3 (0, 0))) (hfr : fr ≤ L) (hL : L ≤ 65536)
    (hH : Held w ao b L cap h) (hn : ∀ i, i < L → h i < n) (hR : Rt w g n n D Bo Me Am) (hpg : p ≠ g) (hqg : q ≠ g) (hbg : 0 < L → b ≠ g) :
    Calls Try.prog 29 #[.pointer (some ⟨p, 0, none⟩), .pointer (some ⟨q, 0, none⟩), .int .i64 body, .slice (some ⟨g, 0, none⟩) n n, .int .i32 at_] w (ApPost g q n L fr h body at_ D Bo Me Am w) := by
  have hq0 : w.cell? ⟨q, 0, none⟩ = some (.int .i64 fr) := cell_of_row w q 0 _ 3 (0, 0) hq
  have HQ := hide hq
  have HR := hide hR
  have HN := hide hn
  have HB := hide hbg
  have HH := hide hH
  clear hq hR hn hbg hH
  rcases HH.out.2 with ⟨rfl, rfl, rfl⟩ | ⟨rfl, rfl⟩
  · obtain rfl : fr = 0 := by omega
    have hfz : w.frozen? ⟨q, 0, none⟩ = false := frozen_of_row w q 0 _ 3 HQ.out
    go_enter Try.func29, Try.ntmps29
    go_wp2
    go_quiet (fail)
    go_wp2
    refine wp_loop_rounds 1 ?_
    rw [rounds_succ]
    go_wp2
    go_end0
    exact done0 HQ.out HR.out hqg _
  · by_cases hcf : cap = fr
    · subst hcf
      have hfz : w.frozen? ⟨q, 0, none⟩ = false := frozen_of_row w q 0 _ 3 HQ.out
      go_enter Try.func29, Try.ntmps29
      go_wp2
      go_quiet (fail)
      go_wp2
      refine wp_loop_rounds 1 ?_
      rw [rounds_succ]
      go_wp2
      go_end0
      exact done0 HQ.out HR.out hqg _
    have hcf' : ¬ (cap - fr = 0) := by omega
    go_enter Try.func29, Try.ntmps29
    go_wp2
    go_quiet (fail)
    go_wp2
    go_loopw [22] (fun i wr => ∃ (k : Nat), k ≤ cap - fr ∧ i = .int .i64 k ∧ Hid (Rt wr g n n D (bk h fr at_ Bo k) (mtg body h fr at_ Me k) Am) ∧ Hid (Chg (fun k => k = g) w wr)) (fun i _ => (cap - fr) - (intOf i).toNat)
    case atStart =>
      refine ⟨0, Nat.zero_le _, rfl, ?_, (Chg.refl _ w).drewN _⟩
      have : mtg body h fr at_ Me 0 = Me := by unfold mtg; split <;> rfl
      rw [this]
      exact HR.out.kept rfl
    case round =>
      obtain ⟨k, hk, rfl, hrt, hch⟩ := hrel
      have hkp : wr.heap[q]? = w.heap[q]? := hch.out.block q (Array.getElem?_eq_some_iff.1 HQ.out).1 hqg
      have hpl : p < w.heap.size := by
        have := World.block_lt_of_cell? _ _ hp
        exact this
      have hp' : wr.cell? ⟨p, 1, none⟩ = some (.slice (some ⟨b, 0, none⟩) cap cap) := by
        have e : wr.heap[p]? = w.heap[p]? := hch.out.block p hpl hpg
        unfold World.cell? at hp ⊢
        simp only [e]
        exact hp
      have hfz : wr.frozen? ⟨q, 0, none⟩ = false := frozen_of_row wr q 0 _ 3 (hkp.trans HQ.out)
      have hq0' : wr.cell? ⟨q, 0, none⟩ = some (.int .i64 fr) := cell_of_row wr q 0 _ 3 (0, 0) (hkp.trans HQ.out)
      have HKP := hide hkp
      clear hkp hp
      by_cases hlt : k < cap - fr
      · have hL0 : 0 < cap := by omega
        have hb := hch.out.block b (HH.out.1.lt hL0) (HB.out hL0)
        have hheld := HH.out.kept hch.out.size (fun _ => hb)
        have hc := hheld.1.cell (fr + k) (by omega)
        have hbd := hheld.1.bd (fr + k) (by omega)
        have hhn := HN.out (fr + k) (by omega)
        rw [Nat.zero_add] at hc
        obtain ⟨c0, c1, c2, c3⟩ := hrt.out.cells _ hhn
        obtain ⟨_, f1⟩ := hrt.out.may _ hhn 1 (by omega)
        obtain ⟨_, f2⟩ := hrt.out.may _ hhn 2 (by omega)
        have HB1 := hide hb
        have HE := hide hheld
        clear hb hheld c0 c3
        have hmin : ∀ x : Int, (if at_ < x then at_ else x) = min x at_ := fun x => by split <;> omega
        by_cases h3 : body = 3
        · subst h3
          go_wp2
          go_roundw
          case rel =>
            refine ⟨k + 1, by omega, by go_num, ?_, (hch.out.setCell (.inl rfl) _).setCell (.inl rfl) _⟩
            refine Rt.setM (Me := mtg 3 h fr at_ Me k) (Rt.set (Bo := bk h fr at_ Bo k) hrt.out _ _ fun j => ?_) _ _ fun j => ?_
            · exact bk_succ h fr at_ Bo k j
            · simp only [mtg, if_true]
              exact bk_succ h fr at_ Me k j
          case measure => simp [intOf]; omega
        · have h3' : (body == 3) = false := by simpa using h3
          go_wp2
          go_roundw
          case rel =>
            refine ⟨k + 1, by omega, by go_num, ?_, hch.out.setCell (.inl rfl) _⟩
            have hmk : ∀ k, mtg body h fr at_ Me k = Me := fun k => by unfold mtg; rw [if_neg h3]
            have hr := hrt.out
            rw [hmk] at hr ⊢
            refine Rt.set (Bo := bk h fr at_ Bo k) hr _ _ fun j => ?_
            exact bk_succ h fr at_ Bo k j
          case measure => simp [intOf]; omega
      · obtain rfl : k = cap - fr := by omega
        go_wp2
        go_end0
        refine ⟨rfl, ?_, ?_, (hch.out.mono fun k _ hk => .inl hk).setCell (.inl (.inr rfl)) _⟩
        · exact hrt.out.kept (heap_setCell_other _ _ _ _ (Ne.symm hqg))
        · rw [heap_setCell_same wr q 0 _ 3 _ (HKP.out.trans HQ.out)]
          rfl

/-- approve, through its exported name. -/
theorem approve22 (p q g n : Nat) (ao : Option Addr) (b L cap fr : Nat) (h : Nat → Nat) (body at_ : Int) (D Bo Me Am : Nat → Int) (w : World)
    (hp : w.cell? ⟨p, 1, none⟩ = some (.slice ao L cap)) (hq : w.heap[q]? = some (.cells #[.int .i64 fr] 3 (0, 0))) (hfr : fr ≤ L) (hL : L ≤ 65536)
    (hH : Held w ao b L cap h) (hn : ∀ i, i < L → h i < n) (hR : Rt w g n n D Bo Me Am) (hpg : p ≠ g) (hqg : q ≠ g) (hbg : 0 < L → b ≠ g) :
    Calls Try.prog 22 #[.pointer (some ⟨p, 0, none⟩), .pointer (some ⟨q, 0, none⟩), .int .i64 body, .slice (some ⟨g, 0, none⟩) n n, .int .i32 at_] w (ApPost g q n L fr h body at_ D Bo Me Am w) := by
  have HC := hide (approve29 p q g n ao b L cap fr h body at_ D Bo Me Am w hp hq hfr hL hH hn hR hpg hqg hbg)
  clear hp hq hH hn hR
  go_enter Try.func22, Try.ntmps22
  go_wp2_with fail
  refine HC.out.mono ?_
  intro e w' hp
  obtain rfl := hp.1
  replace hp := hide hp.2
  go_wp2
  go_end0
  exact ⟨rfl, hp.out⟩
end Go.Proofs.Qxb6613862a
