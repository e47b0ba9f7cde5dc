import Derived.Test.Qxb6613862aAppr2
namespace Go.Proofs.Qxb6613862a
open Go.RowKit

theorem Try.info4 : (Try.prog.info? 4).map (fun i => (i.zero, i.size, i.bytes)) = some (some (.bool false), 1, 1) := by kernel_rfl

/-- Which dealings are covered. -/
def Cov (w : World) (c n : Nat) (f : Nat → Bool) : Prop := ∃ arr, w.heap[c]? = some (.cells arr 4 (0, 0)) ∧ arr.size = n ∧ ∀ i, i < n → arr[i]? = some (.bool (f i))
theorem Cov.kept {w w' : World} {c n : Nat} {f : Nat → Bool} (h : Cov w c n f) (hb : w'.heap[c]? = w.heap[c]?) : Cov w' c n f := by
  obtain ⟨arr, h1, h2⟩ := h
  exact ⟨arr, hb.trans h1, h2⟩
theorem Cov.cell {w : World} {c n : Nat} {f : Nat → Bool} (h : Cov w c n f) (i : Nat) (hi : i < n) : w.cell? ⟨c, i, none⟩ = some (.bool (f i)) := by
  obtain ⟨arr, h1, h2, h3⟩ := h
  rw [cell_of_row w c i arr 4 (0, 0) h1]
  exact h3 i hi
theorem Cov.lt {w : World} {c n : Nat} {f : Nat → Bool} (h : Cov w c n f) : c < w.heap.size := by
  obtain ⟨arr, h1, h2⟩ := h
  exact (Array.getElem?_eq_some_iff.1 h1).1

def CovPost (n L fr : Nat) (h : Nat → Nat) (w : World) (e : Ending) (w' : World) : Prop :=
  e = .returned (.slice (some ⟨w.heap.size, 0, none⟩) n n) ∧ Cov w' w.heap.size n (cv h fr (L - fr)) ∧ Chg (fun _ => False) w w'

set_option maxHeartbeats 800000 in
theorem cov_any (ao : Option Addr) (b L cap fr n : Nat) (h : Nat → Nat) (w : World) (hH : Held w ao b L cap h) (hfr : fr ≤ L) (hL : L ≤ 65536) (hn : ∀ i, i < L → h i < n) (hn6 : n ≤ 65536) :
    Calls Try.prog 23 #[.slice ao L cap, .int .i64 fr, .int .i64 n] w (CovPost n L fr h w) := by
  obtain ⟨i0, hi, hz0, hz1, hz2⟩ := info_parts Try.info4
  have HH := hide hH
  have HN := hide hn
  clear hH hn
  go_enter Try.func23, Try.ntmps23
  go_wp2_with (at_make; go_must (refine wpList_make_full _ rfl _ _ 48 rfl w.heap.size 4 i0 (.bool false) 1 Try.underlying48 hi hz0 hz1 _ _ _ _ n rfl rfl rfl rfl ?b2 ?b3 (Nat.le_refl _) ?_))
  case b2 => rw [hz2]; omega
  case b3 => unfold maxLen; omega
  intro w1 hown1 hgrow1
  have hst : Cov w1 w.heap.size n (fun _ => false) := by
    obtain ⟨hlen, hcase⟩ := hown1
    rcases hcase with ⟨h, _⟩ | ⟨g, cap, cur, h, _, hg, _, _, hcs, ht⟩
    · cases h
    · simp only [Value.slice.injEq, Option.some.injEq, Addr.mk.injEq, and_true, true_and] at h
      obtain ⟨rfl, rfl⟩ := h
      refine ⟨cur, hg, by omega, fun i hi => ?_⟩
      rw [toList_madeCells_one, Nat.mul_one] at ht
      have h1 : (cur.toList.take n)[i]? = some (.bool false) := by
        rw [ht, List.getElem?_replicate_of_lt hi]
      rw [List.getElem?_take_of_lt hi] at h1
      simpa using h1
  have hb := (Below.refl w.heap.size w).grown hgrow1 (Nat.le_refl _) (fun k h => by cases h)
  have hch : Chg (fun _ => False) w w1 := ⟨hb.os, hb.tape, hb.output, hb.size, fun k hk _ => hb.block k hk⟩
  have HST := hide hst
  have HCH := hide hch
  clear hst hown1 hch hb hgrow1
  go_wp2
  go_loopw [8] (fun i wr => ∃ (k : Nat), k ≤ L - fr ∧ i = .int .i64 ((fr + k : Nat) : Int) ∧ Hid (Cov wr w.heap.size n (cv h fr k)) ∧ Hid (Chg (fun _ => False) w wr)) (fun i _ => L - (intOf i).toNat)
  case atStart => exact ⟨0, Nat.zero_le _, by simp, HST.out, HCH.out⟩
  case round =>
    obtain ⟨k, hk, rfl, hcov, hch⟩ := hrel
    by_cases hlt : fr + k < L
    · obtain rfl : ao = some ⟨b, 0, none⟩ := HH.out.1.at_ (by omega)
      have hb := hch.out.block b (HH.out.1.lt (by omega)) (fun h => h)
      have hheld := HH.out.kept hch.out.size (fun _ => hb)
      have hc := hheld.1.cell (fr + k) hlt
      have hhn := HN.out (fr + k) hlt
      have hbd := hheld.1.bd (fr + k) hlt
      rw [Nat.zero_add] at hc
      have hcc := hcov.out.cell _ hhn
      obtain ⟨arr, ha1, ha2, ha3⟩ := hcov.out
      have hf0 : wr.frozen? ⟨w.heap.size, h (fr + k), none⟩ = false := frozen_of_row wr w.heap.size _ arr 4 ha1
      have HA1 := hide ha1
      have HA2 := hide ha2
      have HA3 := hide ha3
      have HB := hide hb
      have HHE := hide hheld
      clear ha1 ha2 ha3 hb hheld
      go_wp2
      go_roundw
      case rel =>
        refine ⟨k + 1, by omega, by go_num, ?_, hch.out.setCell (.inr (Nat.le_refl _)) _⟩
        refine ⟨_, heap_setCell_same wr w.heap.size _ arr 4 _ HA1.out, by simp [HA2.out], fun i hi => ?_⟩
        have h2 := HA2.out
        rw [Array.getElem?_setIfInBounds]
        conv => rhs; unfold cv
        by_cases e : h (fr + k) = i
        · rw [if_pos e, if_pos (by omega)]; simp [e]
        · rw [if_neg e, HA3.out i hi]; simp [Ne.symm e]
      case measure => simp [intOf]; omega
    · obtain rfl : k = L - fr := by omega
      go_wp2
      go_ret
      exact ⟨rfl, hcov.out, hch.out⟩
end Go.Proofs.Qxb6613862a
