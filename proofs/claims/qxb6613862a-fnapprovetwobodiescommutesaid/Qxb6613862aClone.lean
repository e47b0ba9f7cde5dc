import Derived.Test.Qxb6613862aAleaf
import Derived.Lib.Slices
namespace Go.Proofs.Qxb6613862a
open Go.RowKit

theorem Ints.kept {w w' : World} {N : Nat} {ao : Option Addr} {b off L : Nat} {h : Nat → Int} (hi : Ints w N ao b off L h) (hb : ∀ k, k < N → w'.heap[k]? = w.heap[k]?) : Ints w' N ao b off L h :=
  ⟨hi.at_, hi.lt, fun i hl => by
    have := hi.cell i hl
    unfold World.cell? at this ⊢
    simp only [hb b (hi.lt (by omega))]
    exact this, hi.bd⟩

/-- What cloneInt32 hands back. -/
def ClonePost (L : Nat) (h : Nat → Int) (w : World) (e : Ending) (w' : World) : Prop :=
  ∃ ao b cap, e = .returned (.slice ao L cap) ∧ Ints w' w'.heap.size ao b 0 L h ∧ Below w.heap.size w w' ∧ ((ao = none ∧ L = 0 ∧ cap = 0) ∨ (ao = some ⟨b, 0, none⟩ ∧ cap = L ∧ w.heap.size ≤ b))

set_option maxHeartbeats 800000 in
theorem clone_any (ao : Option Addr) (b off L cap : Nat) (h : Nat → Int) (w : World) (hd : Ints w w.heap.size ao b off L h) (hz : ao = none → L = 0 ∧ cap = 0) (hL : L ≤ 65536) :
    Calls Try.prog 19 #[.slice ao L cap] w (ClonePost L h w) := by
  have heq := fun (ao : Option Addr) (n c : Nat) (w : World) => Lib.run_eql_slice_nil (P := Try.prog) w 32 21 ao n c 0 0 Try.underlying32
  have HD := hide hd
  clear hd
  cases ao with
  | none =>
    obtain ⟨rfl, rfl⟩ := hz rfl
    go_enter Try.func19, Try.ntmps19
    go_wp2
    go_ret
    exact ⟨none, 0, 0, rfl, ⟨fun h => absurd h (Nat.lt_irrefl _), fun h => absurd h (Nat.lt_irrefl _), fun i h => absurd h (Nat.not_lt_zero _), fun i h => absurd h (Nat.not_lt_zero _)⟩, Below.refl _ _, .inl ⟨rfl, rfl, rfl⟩⟩
  | some ha =>
    obtain ⟨i0, hi, hz0, hz1, hz2⟩ := info_parts Try.info21
    clear hz
    go_enter Try.func19, Try.ntmps19
    go_wp2_with (at_make; go_must (refine wpList_make_full _ rfl _ _ 32 rfl w.heap.size 21 i0 (.int .i32 0) 1 Try.underlying32 hi hz0 hz1 _ _ _ _ L rfl rfl rfl rfl ?b2 ?b3 (Nat.le_refl _) ?_))
    case b2 => rw [hz2]; omega
    case b3 => unfold maxLen; omega
    intro w1 hown1 hgrow1
    have hst : ∃ arr, w1.heap[w.heap.size]? = some (.cells arr 21 (0, 0)) ∧ arr.size = L := by
      rcases hown1.2 with ⟨h, _⟩ | ⟨g, cap, cur, h, _, hg, _, _, hcs, _⟩
      · cases h
      · simp only [Value.slice.injEq, Option.some.injEq, Addr.mk.injEq, and_true, true_and] at h
        obtain ⟨rfl, rfl⟩ := h
        exact ⟨cur, hg, by omega⟩
    have HST := hide hst
    clear hst hown1
    go_wp2
    go_loopw [4] (fun i wr => ∃ (k : Nat) (arr : Array Value), k ≤ L ∧ i = .int .i64 k ∧ Hid (wr.heap[w.heap.size]? = some (.cells arr 21 (0, 0)) ∧ arr.size = L ∧ (∀ j, j < k → arr[j]? = some (.int .i32 (h j)))) ∧ Below w.heap.size w wr)
      (fun i _ => L - (intOf i).toNat)
    case atStart =>
      obtain ⟨arr, h1, h2⟩ := HST.out
      exact ⟨0, arr, Nat.zero_le _, rfl, ⟨h1, h2, fun j h => absurd h (Nat.not_lt_zero _)⟩, (Below.refl _ _).grown hgrow1 (Nat.le_refl _) (fun k h => by cases h)⟩
    case round =>
      obtain ⟨k, arr, hk, rfl, hA, hbel⟩ := hrel
      by_cases hlt : k < L
      · obtain ⟨ha1, ha2, ha3⟩ := hA.out
        obtain rfl : ha = ⟨b, off, none⟩ := Option.some.inj (HD.out.at_ (by omega))
        have hda := (HD.out.kept hbel.block).cell k hlt
        obtain ⟨x0, hr0⟩ : ∃ x, wr.cell? ⟨w.heap.size, k, none⟩ = some x := ⟨arr[k]'(by omega), by
          rw [cell_of_row wr w.heap.size k arr 21 (0, 0) ha1]; simp⟩
        have hf0 : wr.frozen? ⟨w.heap.size, k, none⟩ = false := frozen_of_row wr w.heap.size k arr 21 ha1
        have HA1 := hide ha1
        have HA2 := hide ha2
        have HA3 := hide ha3
        clear ha1 ha2 ha3
        go_wp2
        go_roundw
        case rel =>
          refine ⟨k + 1, arr.setIfInBounds k (.int .i32 (h k)), by omega, by go_num, ⟨?_, ?_, ?_⟩, ?_⟩
          · exact heap_setCell_same wr w.heap.size k arr 21 _ HA1.out
          · have := HA2.out
            simp [this]
          · intro j hj
            have hsz := HA2.out
            rcases Nat.lt_or_ge j k with h' | h'
            · rw [Array.getElem?_setIfInBounds_ne (by omega)]; exact HA3.out j h'
            · obtain rfl : j = k := by omega
              rw [Array.getElem?_setIfInBounds_self_of_lt (by omega)]
          · exact hbel.setCell (Nat.le_refl _) _
        case measure => simp [intOf]; omega
      · obtain rfl : k = L := by omega
        go_wp2
        go_ret
        obtain ⟨h1, h2, h3⟩ := hA.out
        have hlt2 : w.heap.size < wr.heap.size := (Array.getElem?_eq_some_iff.1 h1).1
        refine ⟨some ⟨w.heap.size, 0, none⟩, w.heap.size, k, rfl, ⟨fun _ => rfl, fun _ => hlt2, fun i hi => ?_, HD.out.bd⟩, hbel, .inr ⟨rfl, rfl, Nat.le_refl _⟩⟩
        rw [Nat.zero_add, cell_of_row wr w.heap.size i arr 21 (0, 0) h1]
        exact h3 i hi
end Go.Proofs.Qxb6613862a
