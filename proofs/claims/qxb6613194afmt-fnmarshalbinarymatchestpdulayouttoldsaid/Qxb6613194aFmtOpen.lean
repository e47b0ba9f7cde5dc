import Derived.Test.Qxb6613194aFmtUd
import Derived.ProofKit
import Derived.Deep.SlicePairs
import Derived.OpenShut
namespace Go.Proofs.Qxb6613194aFmt
open Go.ChangeShapes Go.WideShapes Go.ChangeAt Go.RowKit Go.Deep

theorem Tryf.cells5 : Tryf.prog.cellsOf 5 = 1 := by kernel_rfl
theorem Tryf.cells54 : Tryf.prog.cellsOf 54 = 2 := by kernel_rfl
theorem Tryf.cells23 : Tryf.prog.cellsOf 23 = 1 := by kernel_rfl

section
variable {H : Type} {enc : TypeId × Value → H} {W : World} {fuel : Nat} {x : DataW H × List MemPlace}

theorem rd_of {v : Value} (h : DataW.trod enc Tryf.prog W 0 (fun _ => true) true fuel 23 [v] = some x) :
    ∃ E : El, v = .slice E.ao E.len E.cap ∧ Rd W W.heap.size E.ao E.b E.off E.len E.zs ∧ (E.ao = none → E.len = 0 ∧ E.cap = 0) := by
  rcases open_ints Tryf.underlying23 Tryf.underlying5 Tryf.cells5 h with ⟨hcs, _⟩ | ⟨a, len, cap, zs, hcs, _, hl, _, hz, _, hcell, hwf⟩
  · simp only [List.cons.injEq, and_true] at hcs
    exact ⟨⟨0, none, 0, 0, 0, 0, []⟩, hcs, ⟨fun h => absurd h (Nat.lt_irrefl _), fun h => absurd h (Nat.lt_irrefl _), rfl, fun j h => absurd h (Nat.not_lt_zero _), fun j => by simp⟩, fun _ => ⟨rfl, rfl⟩⟩
  · simp only [List.cons.injEq, and_true] at hcs
    simp only [if_true] at hz
    have hbd : ∀ j, 0 ≤ (zs.take len).getD j 0 ∧ (zs.take len).getD j 0 ≤ 255 := fun j => by
      have := range_u8 (zs := zs.take len) (fun n hn => hwf n (List.mem_of_mem_take hn)) j
      rwa [List.getD_eq_getElem?_getD]
    by_cases hp : 0 < len
    · obtain ⟨b, off, rfl, hc⟩ := ints_at hcell (by omega)
      refine ⟨⟨0, some ⟨b, off, none⟩, b, off, len, cap, zs.take len⟩, hcs, ⟨fun _ => rfl, fun _ => World.block_lt_of_cell? _ _ (hc 0 (by omega)), by simp; omega, fun j (hj : j < len) => ?_, hbd⟩, fun h => by cases h⟩
      rw [hc j (by omega), List.getD_eq_getElem?_getD, List.getD_eq_getElem?_getD, List.getElem?_take_of_lt hj]
    · obtain rfl : len = 0 := by omega
      exact ⟨⟨0, some a, 0, 0, 0, cap, []⟩, hcs, ⟨fun h => absurd h (Nat.lt_irrefl _), fun h => absurd h (Nat.lt_irrefl _), rfl, fun j h => absurd h (Nat.not_lt_zero _), fun j => by simp⟩, fun h => by cases h⟩

theorem hd_of {v : Value} (h : DataW.trod enc Tryf.prog W 0 (fun _ => true) true fuel 22 [v] = some x) :
    ∃ ho hb hoff hn hcap es, v = .slice ho hn hcap ∧ Hd W W.heap.size ho hb hoff hn es ∧ (ho = none → hn = 0 ∧ hcap = 0) := by
  rcases open_slice_pairs Tryf.underlying22 Tryf.underlying54 Tryf.cells54 rfl rfl Tryf.cells5 Tryf.cells23 h with ⟨hcs, _⟩ | ⟨a, len, cap, m, n, V0, V1, D0, D1, P0, P1, hcs, _, hl, _, hm, _, hall⟩
  · simp only [List.cons.injEq, and_true] at hcs
    exact ⟨none, 0, 0, 0, 0, fun _ => ⟨0, none, 0, 0, 0, 0, []⟩, hcs, ⟨fun h => absurd h (Nat.lt_irrefl _), fun h => absurd h (Nat.lt_irrefl _), fun i h => absurd h (Nat.not_lt_zero _), fun i h => absurd h (Nat.not_lt_zero _), fun i h => absurd h (Nat.not_lt_zero _), fun i h => absurd h (Nat.not_lt_zero _), fun i h => absurd h (Nat.not_lt_zero _)⟩, fun _ => ⟨rfl, rfl⟩⟩
  · simp only [List.cons.injEq, and_true] at hcs
    simp only [if_true] at hm
    haveI : Inhabited El := ⟨⟨0, none, 0, 0, 0, 0, []⟩⟩
    have each : ∀ i, i < len → ∃ E : El, W.cell? (a.add (i * 2)) = some (.int .u8 E.id) ∧ (0 ≤ E.id ∧ E.id ≤ 255) ∧ W.cell? (a.add (i * 2 + 1)) = some (.slice E.ao E.len E.cap) ∧ Rd W W.heap.size E.ao E.b E.off E.len E.zs ∧ (E.ao = none → E.len = 0 ∧ E.cap = 0) := by
      intro i hi
      obtain ⟨c0, c1, t0, t1⟩ := hall i (by omega)
      obtain ⟨E, hE, hR, hN⟩ := rd_of t1
      obtain ⟨z, ez, _, wz⟩ := DataW.trod_int Tryf.underlying5 t0
      simp only [List.cons.injEq, and_true] at ez
      exact ⟨⟨z, E.ao, E.b, E.off, E.len, E.cap, E.zs⟩, by rw [c0, ez], bounds_u8 wz, by rw [c1, hE], hR, hN⟩
    obtain ⟨es, hes⟩ := choose_lt each
    by_cases hp : 0 < len
    · obtain ⟨b, off, spot⟩ := a
      have hspot : spot = none := by simpa [Addr.add] using World.cell?_spot (hes 0 hp).1
      subst hspot
      refine ⟨some ⟨b, off, none⟩, b, off, len, cap, es, hcs, ⟨fun _ => rfl, fun _ => ?_, fun i hi => ?_, fun i hi => ?_, fun i hi => (hes i hi).2.2.2.1, fun i hi => (hes i hi).2.1, fun i hi => (hes i hi).2.2.2.2⟩, fun h => by cases h⟩
      · have := World.block_lt_of_cell? _ _ (hes 0 hp).1
        rwa [Addr.add_lit] at this
      · have := (hes i hi).1
        rwa [Addr.add_lit] at this
      · have := (hes i hi).2.2.1
        rw [Addr.add_lit] at this
        rw [Nat.add_assoc]
        exact this
    · obtain rfl : len = 0 := by omega
      exact ⟨some a, 0, 0, 0, cap, es, hcs, ⟨fun h => absurd h (Nat.lt_irrefl _), fun h => absurd h (Nat.lt_irrefl _), fun i h => absurd h (Nat.not_lt_zero _), fun i h => absurd h (Nat.not_lt_zero _), fun i h => absurd h (Nat.not_lt_zero _), fun i h => absurd h (Nat.not_lt_zero _), fun i h => absurd h (Nat.not_lt_zero _)⟩, fun h => by cases h⟩

end
end Go.Proofs.Qxb6613194aFmt
