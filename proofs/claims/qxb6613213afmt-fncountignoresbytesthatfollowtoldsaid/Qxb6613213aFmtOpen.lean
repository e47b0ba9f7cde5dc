import Derived.Test.Qxb6613213aFmtKit
import Derived.ProofKit
import Derived.Deep.SlicePairs
import Derived.OpenShut
namespace Go.Proofs.Qxb6613213aFmt
open Go.ChangeShapes Go.WideShapes Go.ChangeAt Go.RowKit Go.Deep

theorem Tryf.cells5 : Tryf.prog.cellsOf 5 = 1 := by kernel_rfl
section
variable {H : Type} {enc : TypeId × Value → H} {W : World} {fuel : Nat} {x : DataW H × List MemPlace}

theorem bytes_of {v : Value} (h : DataW.trod enc Tryf.prog W 0 (fun _ => true) true fuel 22 [v] = some x) :
    ∃ ao b off L cap hI, v = .slice ao L cap ∧ Bts W W.heap.size ao b off L hI ∧ L ≤ cap := by
  rcases open_slice Tryf.underlying22 h with ⟨hcs, _⟩ | ⟨a, len, cap, m, n, D, Pl, hcs, _, hl, _, hm, _, hall⟩
  · simp only [List.cons.injEq, and_true] at hcs
    exact ⟨none, 0, 0, 0, 0, fun _ => 0, hcs, ⟨fun h => absurd h (Nat.lt_irrefl _), fun h => absurd h (Nat.lt_irrefl _), fun i h => absurd h (Nat.not_lt_zero _), fun i h => absurd h (Nat.not_lt_zero _)⟩, Nat.le_refl _⟩
  · simp only [List.cons.injEq, and_true] at hcs
    simp only [if_true] at hm
    have each : ∀ i, i < len → ∃ q : Int, W.cell? (a.add i) = some (.int .u8 q) ∧ 0 ≤ q ∧ q ≤ 255 := by
      intro i hi
      obtain ⟨cs', h1, h2⟩ := hall i (by omega)
      rw [Tryf.cells5] at h1
      obtain ⟨_, hlen, hcell⟩ := World.cells?_some h1
      match cs', hlen with
      | [v0], _ =>
        have e0 := hcell 0 (by omega)
        rw [add_add] at e0
        obtain ⟨z, ez, hz, hw⟩ := DataW.trod_int Tryf.underlying5 h2
        simp only [List.cons.injEq, and_true] at ez
        subst ez
        have hb := bounds_u8 hw
        exact ⟨z, by simpa using e0, hb.1, hb.2⟩
    obtain ⟨q, hq⟩ := choose_lt each
    by_cases hp : 0 < len
    · obtain ⟨b, off, spot⟩ := a
      have hspot : spot = none := by simpa [Addr.add] using World.cell?_spot (hq 0 hp).1
      subst hspot
      refine ⟨some ⟨b, off, none⟩, b, off, len, cap, q, hcs, ⟨fun _ => rfl, fun _ => ?_, fun i hi => ?_, fun i hi => (hq i hi).2⟩, hl⟩
      · have := World.block_lt_of_cell? _ _ (hq 0 hp).1
        rwa [Addr.add_lit] at this
      · have := (hq i hi).1
        rwa [Addr.add_lit] at this
    · obtain rfl : len = 0 := by omega
      exact ⟨some a, 0, 0, 0, cap, fun _ => 0, hcs, ⟨fun h => absurd h (Nat.lt_irrefl _), fun h => absurd h (Nat.lt_irrefl _), fun i h => absurd h (Nat.not_lt_zero _), fun i h => absurd h (Nat.not_lt_zero _)⟩, hl⟩
end
end Go.Proofs.Qxb6613213aFmt
