import Derived.Test.Qxb6613194aFmtSmall
namespace Go.Proofs.Qxb6613194aFmt
open Go.RowKit

theorem Tryf.info55 : (Tryf.prog.info? 55).map (fun i => (i.zero, i.size, i.bytes)) = some (some (.agg #[.int .u8 0, .slice none 0 0]), 2, 32) := by kernel_rfl

/-- What toHeader hands back. -/
def ToHPost (hn : Nat) (es : Nat → El) (w : World) (e : Ending) (w' : World) : Prop :=
  ∃ ho hb hcap, e = .returned (.slice ho hn hcap) ∧ Hd w' w'.heap.size ho hb 0 hn es ∧ Below w.heap.size w w'

set_option maxHeartbeats 800000 in
theorem toH_any (ho : Option Addr) (hb hoff hn hcap : Nat) (es : Nat → El) (w : World) (hd : Hd w w.heap.size ho hb hoff hn es) (hz : ho = none → hn = 0 ∧ hcap = 0) (hn3 : hn ≤ 1048576) :
    Calls Tryf.prog 8 #[.slice ho hn hcap] w (ToHPost hn es w) := by
  have heq := fun (ao : Option Addr) (n c : Nat) (w : World) => Lib.run_eql_slice_nil (P := Tryf.prog) w 22 54 ao n c 0 0 Tryf.underlying22
  have HD := hide hd
  clear hd
  cases ho with
  | none =>
    obtain ⟨rfl, rfl⟩ := hz rfl
    go_enter Tryf.func8, Tryf.ntmps8
    go_wp2
    go_ret
    exact ⟨none, 0, 0, rfl, ⟨fun h => absurd h (Nat.lt_irrefl _), fun h => absurd h (Nat.lt_irrefl _), fun i h => absurd h (Nat.not_lt_zero _), fun i h => absurd h (Nat.not_lt_zero _), fun i h => absurd h (Nat.not_lt_zero _), fun i h => absurd h (Nat.not_lt_zero _), fun i h => absurd h (Nat.not_lt_zero _)⟩, Below.refl _ _⟩
  | some ha =>
    obtain ⟨i0, hi, hz0, hz1, hz2⟩ := info_parts Tryf.info55
    clear hz
    go_enter Tryf.func8, Tryf.ntmps8
    go_wp2_with (at_make; go_must (refine wpList_make_full _ rfl _ _ 31 rfl w.heap.size 55 i0 (.agg #[.int .u8 0, .slice none 0 0]) 2 Tryf.underlying31 hi hz0 hz1 _ _ _ _ hn rfl rfl rfl rfl ?b2 ?b3 (Nat.le_refl _) ?_))
    case b2 => rw [hz2]; omega
    case b3 => unfold maxLen; omega
    intro w1 hown1 hgrow1
    have hst : ∃ arr, w1.heap[w.heap.size]? = some (.cells arr 55 (0, 0)) ∧ arr.size = hn * 2 := by
      rcases hown1.2 with ⟨h, _⟩ | ⟨g, cap, cur, h, _, hg, _, _, hcs, _⟩
      · cases h
      · simp only [Value.slice.injEq, Option.some.injEq, Addr.mk.injEq, and_true, true_and] at h
        obtain ⟨rfl, rfl⟩ := h
        exact ⟨cur, hg, hcs⟩
    have HST := hide hst
    clear hst hown1
    go_wp2
    go_loopw [4] (fun i wr => ∃ (k : Nat) (arr : Array Value), k ≤ hn ∧ i = .int .i64 k ∧ Hid (wr.heap[w.heap.size]? = some (.cells arr 55 (0, 0)) ∧ arr.size = hn * 2 ∧ (∀ j, j < k → arr[j * 2]? = some (.int .u8 (es j).id) ∧ arr[j * 2 + 1]? = some (.slice (es j).ao (es j).len (es j).cap))) ∧ Below w.heap.size w wr)
      (fun i _ => hn - (intOf i).toNat)
    case atStart =>
      obtain ⟨arr, h1, h2⟩ := HST.out
      exact ⟨0, arr, Nat.zero_le _, rfl, ⟨h1, h2, fun j h => absurd h (Nat.not_lt_zero _)⟩, (Below.refl _ _).grown hgrow1 (Nat.le_refl _) (fun k h => by cases h)⟩
    case round =>
      obtain ⟨k, arr, hk, rfl, hA, hbel⟩ := hrel
      by_cases hlt : k < hn
      · obtain ⟨ha1, ha2, ha3⟩ := hA.out
        obtain rfl : ha = ⟨hb, hoff, none⟩ := Option.some.inj (HD.out.at_ (by omega))
        have hHd := HD.out.below hbel
        have hid := hHd.id k hlt
        have hda := hHd.data k hlt
        clear hHd
        obtain ⟨x0, hr0⟩ : ∃ x, wr.cell? ⟨w.heap.size, k * 2, none⟩ = some x := ⟨arr[k * 2]'(by omega), by
          rw [cell_of_row wr w.heap.size (k * 2) arr 55 (0, 0) ha1]; simp⟩
        obtain ⟨x1, hr1⟩ : ∃ x, wr.cell? ⟨w.heap.size, k * 2 + 1, none⟩ = some x := ⟨arr[k * 2 + 1]'(by omega), by
          rw [cell_of_row wr w.heap.size (k * 2 + 1) arr 55 (0, 0) ha1]; simp⟩
        have hf0 : wr.frozen? ⟨w.heap.size, k * 2, none⟩ = false := frozen_of_row wr w.heap.size (k * 2) arr 55 ha1
        have hf1 : wr.frozen? ⟨w.heap.size, k * 2 + 1, none⟩ = false := frozen_of_row wr w.heap.size (k * 2 + 1) arr 55 ha1
        have HA1 := hide ha1
        have HA2 := hide ha2
        have HA3 := hide ha3
        clear ha1 ha2 ha3
        go_wp2
        go_region
        go_wp2
        go_roundw
        case rel =>
          refine ⟨k + 1, (arr.setIfInBounds (k * 2) (.int .u8 (es k).id)).setIfInBounds (k * 2 + 1) (.slice (es k).ao (es k).len (es k).cap), by omega, by go_num, ⟨?_, ?_, ?_⟩, ?_⟩
          · exact heap_setCell_same _ w.heap.size (k * 2 + 1) _ 55 _ (heap_setCell_same wr w.heap.size (k * 2) arr 55 _ HA1.out)
          · have := HA2.out
            simp [this]
          · intro j hj
            have hsz := HA2.out
            have h3 := HA3.out j
            rcases Nat.lt_or_ge j k with h' | h'
            · obtain ⟨q1, q2⟩ := h3 h'
              constructor
              · rw [Array.getElem?_setIfInBounds_ne (by omega), Array.getElem?_setIfInBounds_ne (by omega)]; exact q1
              · rw [Array.getElem?_setIfInBounds_ne (by omega), Array.getElem?_setIfInBounds_ne (by omega)]; exact q2
            · obtain rfl : j = k := by omega
              constructor
              · rw [Array.getElem?_setIfInBounds_ne (by omega), Array.getElem?_setIfInBounds_self_of_lt (by omega)]
              · rw [Array.getElem?_setIfInBounds_self_of_lt (by simp; omega)]
          · exact ((hbel.setCell (Nat.le_refl _) _).setCell (Nat.le_refl _) _).drew
        case measure => simp [intOf]; omega
      · obtain rfl : k = hn := by omega
        go_wp2
        go_ret
        obtain ⟨h1, h2, h3⟩ := hA.out
        have hd2 := HD.out.below hbel
        have hlt2 : w.heap.size < wr.heap.size := (Array.getElem?_eq_some_iff.1 h1).1
        refine ⟨some ⟨w.heap.size, 0, none⟩, w.heap.size, k, rfl, ⟨fun _ => rfl, fun _ => hlt2, ?_, ?_, fun i hi => (hd2.rd i hi).up (by omega), hd2.bd, hd2.nil⟩, hbel⟩
        · intro i hi
          rw [Nat.zero_add, cell_of_row wr w.heap.size (i * 2) arr 55 (0, 0) h1]
          exact (h3 i hi).1
        · intro i hi
          rw [Nat.zero_add, cell_of_row wr w.heap.size (i * 2 + 1) arr 55 (0, 0) h1]
          exact (h3 i hi).2
end Go.Proofs.Qxb6613194aFmt
