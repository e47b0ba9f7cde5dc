import Derived.Test.Qxb6613213aFmtUv
namespace Go.Proofs.Qxb6613213aFmt
open Go.RowKit

/-- A row of T bytes of the call's own, of which the first n are told. -/
def BR (w : World) (g T n : Nat) (f : Nat → Int) : Prop := ∃ arr, w.heap[g]? = some (.cells arr 5 (0, 0)) ∧ arr.size = T ∧ ∀ i, i < n → arr[i]? = some (.int .u8 (f i))
theorem BR.lt {w : World} {g T n : Nat} {f : Nat → Int} (h : BR w g T n f) : g < w.heap.size := by
  obtain ⟨arr, h1, _⟩ := h
  exact (Array.getElem?_eq_some_iff.1 h1).1
theorem BR.kept {w w' : World} {g T n : Nat} {f : Nat → Int} {G : Nat → Prop} (h : BR w g T n f) (hc : Chg G w w') (hg : ¬ G g) : BR w' g T n f := by
  have := hc.block g h.lt hg
  obtain ⟨arr, h1, h2⟩ := h
  exact ⟨arr, this.trans h1, h2⟩
theorem BR.may {w : World} {g T n : Nat} {f : Nat → Int} (h : BR w g T n f) (i : Nat) (hi : i < T) : (∃ x, w.cell? ⟨g, i, none⟩ = some x) ∧ w.frozen? ⟨g, i, none⟩ = false := by
  obtain ⟨arr, h1, h2, h3⟩ := h
  refine ⟨⟨arr[i]'(by omega), ?_⟩, frozen_of_row w g _ arr 5 h1⟩
  rw [cell_of_row w g _ arr 5 (0, 0) h1]
  simp [h2, hi]
theorem BR.set {w : World} {g T n : Nat} {f : Nat → Int} (h : BR w g T n f) (hn : n < T) {x : Int} (hx : x = f n) : BR (w.setCell ⟨g, n, none⟩ (.int .u8 x)) g T (n + 1) f := by
  obtain ⟨arr, h1, h2, h3⟩ := h
  refine ⟨_, heap_setCell_same w g _ arr 5 _ h1, by simp [h2], fun j hj => ?_⟩
  rcases Nat.lt_or_ge j n with h' | h'
  · rw [Array.getElem?_setIfInBounds_ne (by omega)]; exact h3 j h'
  · obtain rfl : j = n := by omega
    rw [Array.getElem?_setIfInBounds_self_of_lt (by omega), hx]
theorem BR.bts {w : World} {g T : Nat} {f : Nat → Int} (h : BR w g T T f) (hb : ∀ i, i < T → 0 ≤ f i ∧ f i ≤ 255) : Bts w w.heap.size (some ⟨g, 0, none⟩) g 0 T f := by
  have hl := h.lt
  obtain ⟨arr, h1, h2, h3⟩ := h
  refine ⟨fun _ => rfl, fun _ => hl, fun i hi => ?_, hb⟩
  rw [Nat.zero_add, cell_of_row w g i arr 5 (0, 0) h1]
  exact h3 i hi

def ClPost (L : Nat) (h : Nat → Int) (w : World) (e : Ending) (w' : World) : Prop :=
  e = .returned (.slice (some ⟨w.heap.size, 0, none⟩) L L) ∧ BR w' w.heap.size L L h ∧ Chg (fun _ => False) w w'

set_option maxHeartbeats 800000 in
theorem clone7 (b off L cap : Nat) (h : Nat → Int) (w : World) (hd : Bts w w.heap.size (some ⟨b, off, none⟩) b off L h) (hL : L ≤ 1048576) :
    Calls Tryf.prog 7 #[.slice (some ⟨b, off, none⟩) L cap] w (ClPost L h w) := by
  have heq := fun (ao : Option Addr) (n c : Nat) (w : World) => Lib.run_eql_slice_nil (P := Tryf.prog) w 22 5 ao n c 0 0 Tryf.underlying22
  have HD := hide hd
  clear hd
  obtain ⟨i0, hi, hz0, hz1, hz2⟩ := info_parts Tryf.info5
  go_enter Tryf.func7, Tryf.ntmps7
  go_wp2_with (at_make; go_must (refine wpList_make_full _ rfl _ _ 22 rfl w.heap.size 5 i0 (.int .u8 0) 1 Tryf.underlying22 hi hz0 hz1 _ _ _ _ L rfl rfl rfl rfl ?b2 ?b3 (Nat.le_refl _) ?_))
  case b2 => rw [hz2]; omega
  case b3 => unfold maxLen; omega
  intro w1 hown1 hgrow1
  have hst : BR w1 w.heap.size L 0 h := by
    rcases hown1.2 with ⟨h, _⟩ | ⟨g, cap, cur, h, _, hg, _, _, hcs, _⟩
    · cases h
    · simp only [Value.slice.injEq, Option.some.injEq, Addr.mk.injEq, and_true, true_and] at h
      obtain ⟨rfl, rfl⟩ := h
      exact ⟨cur, hg, by omega, fun i hi => absurd hi (Nat.not_lt_zero _)⟩
  have hb := (Below.refl w.heap.size w).grown hgrow1 (Nat.le_refl _) (fun k h => by cases h)
  have HCH : Hid (Chg (fun _ => False) w w1) := ⟨hb.os, hb.tape, hb.output, hb.size, fun k hk _ => hb.block k hk⟩
  have HST := hide hst
  clear hst hown1 hb hgrow1
  go_wp2
  go_loopw [4] (fun i wr => ∃ (k : Nat), k ≤ L ∧ i = .int .i64 k ∧ Hid (BR wr w.heap.size L k h) ∧ Hid (Chg (fun _ => False) w wr)) (fun i _ => L - (intOf i).toNat)
  case atStart => exact ⟨0, Nat.zero_le _, rfl, HST.out, HCH.out⟩
  case round =>
    obtain ⟨k, hk, rfl, hA, hch⟩ := hrel
    by_cases hlt : k < L
    · have hda := (HD.out.kept (fun k hk => hch.out.block k hk id)).cell k hlt
      obtain ⟨⟨x0, hr0⟩, hf0⟩ := hA.out.may k hlt
      go_wp2
      go_roundw
      case rel => exact ⟨k + 1, by omega, by go_num, hA.out.set hlt rfl, hch.out.setCell (.inr (Nat.le_refl _)) _⟩
      case measure => simp [intOf]; omega
    · obtain rfl : k = L := by omega
      go_wp2
      go_ret
      exact ⟨rfl, hA.out, hch.out⟩
end Go.Proofs.Qxb6613213aFmt
