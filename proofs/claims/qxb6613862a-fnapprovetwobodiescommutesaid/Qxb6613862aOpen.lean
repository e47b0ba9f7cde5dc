import Derived.Test.Qxb6613862aLeaf
import Derived.ProofKit
import Derived.Deep.SlicePairs
import Derived.OpenShut
namespace Go.Proofs.Qxb6613862a
open Go.ChangeShapes Go.WideShapes Go.ChangeAt Go.RowKit Go.Deep

theorem Try.own : ownKnob Try.prog.godebug = none := by kernel_rfl
theorem Try.laidOut : laidOutB Try.prog = true := by kernel_rfl
theorem Try.cells29 : Try.prog.cellsOf 29 = 3 := by kernel_rfl
theorem Try.cells9 : Try.prog.cellsOf 9 = 1 := by kernel_rfl
theorem Try.cells21 : Try.prog.cellsOf 21 = 1 := by kernel_rfl
theorem Try.cells4 : Try.prog.cellsOf 4 = 1 := by kernel_rfl

/-- All arguments read behind the call as they read before it. -/
theorem trodAll_below {H : Type} {enc : TypeId × Value → H} {W W' : World} (hb : Below W.heap.size W W') : ∀ (ts : List TypeId) (vs : List Value) (ds : List (DataW H)) (ps : List MemPlace),
    (∀ t ∈ ts, Try.prog.readableRec t = true ∧ t < Try.prog.types.size) → DataW.TrodAll enc Try.prog W 0 (fun _ => true) true ts vs ds ps → (∀ x ∈ ps, x.block < W.heap.size) →
    DataW.TrodAll enc Try.prog W' 0 (fun b => decide (b < W.heap.size)) true ts vs ds ps
  | [], vs, ds, ps, _, h, _ => by
    obtain ⟨rfl, rfl, rfl⟩ := trodAll_nil h
    exact trodAll_mk0
  | t :: ts, vs, ds, ps, hr, h, hlt => by
    obtain ⟨v, vs', d, ds', p, q, rfl, rfl, rfl, h0, r0⟩ := trodAll_cons h
    exact trodAll_cons_mk (Below.trod Try.laidOut (hr t (by simp)).1 (hr t (by simp)).2 h0 hb (fun x hx => hlt x (by simp [hx])))
      (trodAll_below hb ts vs' ds' q (fun t' ht => hr t' (by simp [ht])) r0 (fun x hx => hlt x (by simp [hx])))

theorem readable_of (ts : List TypeId) (h : ts.all (fun t => Try.prog.readableRec t && decide (t < Try.prog.types.size)) = true) : ∀ t ∈ ts, Try.prog.readableRec t = true ∧ t < Try.prog.types.size := by
  intro t ht
  have := List.all_eq_true.1 h t ht
  simp only [Bool.and_eq_true, decide_eq_true_eq] at this
  exact this

section
variable {H : Type} {enc : TypeId × Value → H} {W : World} {fuel : Nat} {x : DataW H × List MemPlace}

theorem deals_of {v : Value} (h : DataW.trod enc Try.prog W 0 (fun _ => true) true fuel 22 [v] = some x) :
    ∃ ao b off L cap P A B, v = .slice ao L cap ∧ Deals W W.heap.size ao b off L P A B := by
  rcases open_slice Try.underlying22 h with ⟨hcs, _⟩ | ⟨a, len, cap, m, n, D, Pl, hcs, _, hl, _, hm, _, hall⟩
  · simp only [List.cons.injEq, and_true] at hcs
    exact ⟨none, 0, 0, 0, 0, fun _ => ⟨#[]⟩, fun _ => 0, fun _ => false, hcs, ⟨fun h => absurd h (Nat.lt_irrefl _), fun h => absurd h (Nat.lt_irrefl _), fun i h => absurd h (Nat.not_lt_zero _), fun i h => absurd h (Nat.not_lt_zero _), fun i h => absurd h (Nat.not_lt_zero _), fun i h => absurd h (Nat.not_lt_zero _)⟩⟩
  · simp only [List.cons.injEq, and_true] at hcs
    simp only [if_true] at hm
    have each : ∀ i, i < len → ∃ q : ByteArray × Int × Bool, W.cell? (a.add (i * 3)) = some (.string q.1) ∧ W.cell? (a.add (i * 3 + 1)) = some (.int .i32 q.2.1) ∧ W.cell? (a.add (i * 3 + 2)) = some (.bool q.2.2) ∧ q.1.size ≤ maxLen := by
      intro i hi
      obtain ⟨cs', h1, h2⟩ := hall i (by omega)
      rw [Try.cells29] at h1
      obtain ⟨_, hlen, hcell⟩ := World.cells?_some h1
      obtain ⟨xs, k, hk, hxy, _, hxl, hf⟩ := DataW.trod_struct Try.underlying29 h2
      match xs, hxl, cs', hlen with
      | [y0, y1, y2], _, [v0, v1, v2], _ =>
        have g0 := hf 0 _ rfl
        have g1 := hf 1 _ rfl
        have g2 := hf 2 _ rfl
        simp [Try.cells9, Try.cells21, Try.cells4] at g0 g1 g2
        have e0 := hcell 0 (by omega)
        have e1 := hcell 1 (by omega)
        have e2 := hcell 2 (by omega)
        rw [add_add] at e0 e1 e2
        obtain ⟨s, es, _, hs⟩ := DataW.trod_string Try.underlying9 g0
        obtain ⟨z, ez, _, _⟩ := DataW.trod_int Try.underlying21 g1
        obtain ⟨bb, eb, _⟩ := DataW.trod_bool Try.underlying4 g2
        simp only [List.cons.injEq, and_true] at es ez eb
        subst es ez eb
        exact ⟨(s, z, bb), by simpa using e0, by simpa using e1, by simpa using e2, hs⟩
    obtain ⟨q, hq⟩ := choose_lt each
    by_cases hp : 0 < len
    · obtain ⟨b, off, spot⟩ := a
      have hspot : spot = none := by simpa [Addr.add] using World.cell?_spot (hq 0 hp).1
      subst hspot
      refine ⟨some ⟨b, off, none⟩, b, off, len, cap, fun i => (q i).1, fun i => (q i).2.1, fun i => (q i).2.2, hcs, ⟨fun _ => rfl, fun _ => ?_, fun i hi => ?_, fun i hi => ?_, fun i hi => ?_, fun i hi => (hq i hi).2.2.2⟩⟩
      · have := World.block_lt_of_cell? _ _ (hq 0 hp).1
        rwa [Addr.add_lit] at this
      · have := (hq i hi).1
        rwa [Addr.add_lit] at this
      · have := (hq i hi).2.1
        rw [Addr.add_lit] at this
        rw [Nat.add_assoc]
        exact this
      · have := (hq i hi).2.2.1
        rw [Addr.add_lit] at this
        rw [Nat.add_assoc]
        exact this
    · obtain rfl : len = 0 := by omega
      exact ⟨some a, 0, 0, 0, cap, fun _ => ⟨#[]⟩, fun _ => 0, fun _ => false, hcs, ⟨fun h => absurd h (Nat.lt_irrefl _), fun h => absurd h (Nat.lt_irrefl _), fun i h => absurd h (Nat.not_lt_zero _), fun i h => absurd h (Nat.not_lt_zero _), fun i h => absurd h (Nat.not_lt_zero _), fun i h => absurd h (Nat.not_lt_zero _)⟩⟩
end
end Go.Proofs.Qxb6613862a
