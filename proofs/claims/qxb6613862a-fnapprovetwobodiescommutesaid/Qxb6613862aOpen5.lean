import Derived.Test.Qxb6613862aSt
import Derived.Test.Qxb6613862aOpen
namespace Go.Proofs.Qxb6613862a
open Go.ChangeShapes Go.WideShapes Go.ChangeAt Go.RowKit Go.Deep

theorem Try.cells45 : Try.prog.cellsOf 45 = 4 := by kernel_rfl
theorem Try.cells2 : Try.prog.cellsOf 2 = 1 := by kernel_rfl
section
variable {H : Type} {enc : TypeId × Value → H} {W : World} {fuel : Nat} {x : DataW H × List MemPlace}

theorem ints_of {v : Value} (h : DataW.trod enc Try.prog W 0 (fun _ => true) true fuel 32 [v] = some x) :
    ∃ ao b off L cap hI, v = .slice ao L cap ∧ Ints W W.heap.size ao b off L hI ∧ (ao = none → L = 0 ∧ cap = 0) := by
  rcases open_slice Try.underlying32 h with ⟨hcs, _⟩ | ⟨a, len, cap, m, n, D, Pl, hcs, _, hl, _, hm, _, hall⟩
  · simp only [List.cons.injEq, and_true] at hcs
    exact ⟨none, 0, 0, 0, 0, fun _ => 0, hcs, ⟨fun h => absurd h (Nat.lt_irrefl _), fun h => absurd h (Nat.lt_irrefl _), fun i h => absurd h (Nat.not_lt_zero _), fun i h => absurd h (Nat.not_lt_zero _)⟩, fun _ => ⟨rfl, rfl⟩⟩
  · simp only [List.cons.injEq, and_true] at hcs
    simp only [if_true] at hm
    have each : ∀ i, i < len → ∃ q : Int, W.cell? (a.add i) = some (.int .i32 q) ∧ -2147483648 ≤ q ∧ q ≤ 2147483647 := by
      intro i hi
      obtain ⟨cs', h1, h2⟩ := hall i (by omega)
      rw [Try.cells21] at h1
      obtain ⟨_, hlen, hcell⟩ := World.cells?_some h1
      match cs', hlen with
      | [v0], _ =>
        have e0 := hcell 0 (by omega)
        rw [add_add] at e0
        obtain ⟨z, ez, hz, hw⟩ := DataW.trod_int Try.underlying21 h2
        simp only [List.cons.injEq, and_true] at ez
        subst ez
        have hb := bounds_i32 hw
        exact ⟨z, by simpa using e0, hb.1, hb.2⟩
    obtain ⟨q, hq⟩ := choose_lt each
    by_cases hp : 0 < len
    · obtain ⟨b, off, spot⟩ := a
      have hspot : spot = none := by simpa [Addr.add] using World.cell?_spot (hq 0 hp).1
      subst hspot
      refine ⟨some ⟨b, off, none⟩, b, off, len, cap, q, hcs, ⟨fun _ => rfl, fun _ => ?_, fun i hi => ?_, fun i hi => (hq i hi).2⟩, fun h => by cases h⟩
      · have := World.block_lt_of_cell? _ _ (hq 0 hp).1
        rwa [Addr.add_lit] at this
      · have := (hq i hi).1
        rwa [Addr.add_lit] at this
    · obtain rfl : len = 0 := by omega
      exact ⟨some a, 0, 0, 0, cap, fun _ => 0, hcs, ⟨fun h => absurd h (Nat.lt_irrefl _), fun h => absurd h (Nat.lt_irrefl _), fun i h => absurd h (Nat.not_lt_zero _), fun i h => absurd h (Nat.not_lt_zero _)⟩, fun h => by cases h⟩

theorem rs_of {v : Value} (h : DataW.trod enc Try.prog W 0 (fun _ => true) true fuel 37 [v] = some x) :
    ∃ ao b off L cap D Bo Me Am, v = .slice ao L cap ∧ RS W W.heap.size ao b off L D Bo Me Am := by
  have no : ∀ {p : Prop}, 0 < 0 → p := fun h => absurd h (Nat.lt_irrefl _)
  rcases open_slice Try.underlying37 h with ⟨hcs, _⟩ | ⟨a, len, cap, m, n, D, Pl, hcs, _, hl, _, hm, _, hall⟩
  · simp only [List.cons.injEq, and_true] at hcs
    exact ⟨none, 0, 0, 0, 0, fun _ => 0, fun _ => 0, fun _ => 0, fun _ => 0, hcs, ⟨no, no, fun i h => absurd h (Nat.not_lt_zero _), fun i h => absurd h (Nat.not_lt_zero _), fun i h => absurd h (Nat.not_lt_zero _), fun i h => absurd h (Nat.not_lt_zero _)⟩⟩
  · simp only [List.cons.injEq, and_true] at hcs
    simp only [if_true] at hm
    have each : ∀ i, i < len → ∃ q : Int × Int × Int × Int, W.cell? (a.add (i * 4)) = some (.int .i32 q.1) ∧ W.cell? (a.add (i * 4 + 1)) = some (.int .i32 q.2.1) ∧ W.cell? (a.add (i * 4 + 2)) = some (.int .i32 q.2.2.1) ∧ W.cell? (a.add (i * 4 + 3)) = some (.int .i64 q.2.2.2) := by
      intro i hi
      obtain ⟨cs', h1, h2⟩ := hall i (by omega)
      rw [Try.cells45] at h1
      obtain ⟨_, hlen, hcell⟩ := World.cells?_some h1
      obtain ⟨xs, k, hk, hxy, _, hxl, hf⟩ := DataW.trod_struct Try.underlying45 h2
      match xs, hxl, cs', hlen with
      | [y0, y1, y2, y3], _, [v0, v1, v2, v3], _ =>
        have g0 := hf 0 _ rfl
        have g1 := hf 1 _ rfl
        have g2 := hf 2 _ rfl
        have g3 := hf 3 _ rfl
        simp [Try.cells21, Try.cells2] at g0 g1 g2 g3
        have e0 := hcell 0 (by omega)
        have e1 := hcell 1 (by omega)
        have e2 := hcell 2 (by omega)
        have e3 := hcell 3 (by omega)
        rw [add_add] at e0 e1 e2 e3
        obtain ⟨z0, ez0, _, _⟩ := DataW.trod_int Try.underlying21 g0
        obtain ⟨z1, ez1, _, _⟩ := DataW.trod_int Try.underlying21 g1
        obtain ⟨z2, ez2, _, _⟩ := DataW.trod_int Try.underlying21 g2
        obtain ⟨z3, ez3, _, _⟩ := DataW.trod_int Try.underlying2 g3
        simp only [List.cons.injEq, and_true] at ez0 ez1 ez2 ez3
        subst ez0 ez1 ez2 ez3
        exact ⟨(z0, z1, z2, z3), by simpa using e0, by simpa using e1, by simpa using e2, by simpa using e3⟩
    obtain ⟨q, hq⟩ := choose_lt each
    by_cases hp : 0 < len
    · obtain ⟨b, off, spot⟩ := a
      have hspot : spot = none := by simpa [Addr.add] using World.cell?_spot (hq 0 hp).1
      subst hspot
      refine ⟨some ⟨b, off, none⟩, b, off, len, cap, fun i => (q i).1, fun i => (q i).2.1, fun i => (q i).2.2.1, fun i => (q i).2.2.2, hcs, ⟨fun _ => rfl, fun _ => ?_, fun i hi => ?_, fun i hi => ?_, fun i hi => ?_, fun i hi => ?_⟩⟩
      · have := World.block_lt_of_cell? _ _ (hq 0 hp).1
        rwa [Addr.add_lit] at this
      · have := (hq i hi).1
        rwa [Addr.add_lit] at this
      · have := (hq i hi).2.1
        rw [Addr.add_lit] at this
        rw [Nat.add_assoc]
        exact this
      · have := (hq i hi).2.2.1
        rw [Addr.add_lit] at this
        rw [Nat.add_assoc]
        exact this
      · have := (hq i hi).2.2.2
        rw [Addr.add_lit] at this
        rw [Nat.add_assoc]
        exact this
    · obtain rfl : len = 0 := by omega
      exact ⟨some a, 0, 0, 0, cap, fun _ => 0, fun _ => 0, fun _ => 0, fun _ => 0, hcs, ⟨no, no, fun i h => absurd h (Nat.not_lt_zero _), fun i h => absurd h (Nat.not_lt_zero _), fun i h => absurd h (Nat.not_lt_zero _), fun i h => absurd h (Nat.not_lt_zero _)⟩⟩
end
end Go.Proofs.Qxb6613862a
