import Derived.Test.Qxb6613194aFmtOpen
import Derived.Test.Qxb6613194aFmtCards
import Derived.Stop.JoinedAt
import Derived.Stop.JoinedTold
import Derived.SevenToldRow
namespace Go.Proofs.Qxb6613194aFmt
open Go.ChangeShapes Go.WideShapes Go.ChangeAt Go.RowKit
open Go.ChangeMaps (open_string shut_string)
open Go.Extern.Stop Go.Stop Go.Extern

theorem Tryf.own : ownKnob Tryf.prog.godebug = none := by kernel_rfl
theorem Tryf.laidOut : laidOutB Tryf.pinned.checked.prog = true := by kernel_rfl
theorem Tryf.laidOut' : laidOutB Tryf.prog = true := by kernel_rfl
theorem Tryf.stops : Tryf.pinned.checked.prog.stops = ["fmt.errorf"] := by kernel_rfl
theorem Tryf.stopKnobs : Tryf.pinned.checked.prog.stopKnobs = [] := by kernel_rfl
theorem Tryf.quiet (os : Os) : Stop.quiet Tryf.pinned.checked.prog os := by
  intro k hk
  rw [Tryf.stopKnobs] at hk
  cases hk

/-- All arguments read behind the call as they read before it. -/
theorem trodAll_below {H : Type} {enc : TypeId × Value → H} {W W' : World} (hb : Below W.heap.size W W') : ∀ (ts : List TypeId) (vs : List Value) (ds : List (DataW H)) (ps : List MemPlace),
    (∀ t ∈ ts, Tryf.prog.readableRec t = true ∧ t < Tryf.prog.types.size) → DataW.TrodAll enc Tryf.prog W 0 (fun _ => true) true ts vs ds ps → (∀ x ∈ ps, x.block < W.heap.size) →
    DataW.TrodAll enc Tryf.prog W' 0 (fun b => decide (b < W.heap.size)) true ts vs ds ps
  | [], vs, ds, ps, _, h, _ => by
    obtain ⟨rfl, rfl, rfl⟩ := trodAll_nil h
    exact trodAll_mk0
  | t :: ts, vs, ds, ps, hr, h, hlt => by
    obtain ⟨v, vs', d, ds', p, q, rfl, rfl, rfl, h0, r0⟩ := trodAll_cons h
    exact trodAll_cons_mk (Below.trod Tryf.laidOut' (hr t (by simp)).1 (hr t (by simp)).2 h0 hb (fun x hx => hlt x (by simp [hx])))
      (trodAll_below hb ts vs' ds' q (fun t' ht => hr t' (by simp [ht])) r0 (fun x hx => hlt x (by simp [hx])))

theorem readable_of (ts : List TypeId) (h : ts.all (fun t => Tryf.prog.readableRec t && decide (t < Tryf.prog.types.size)) = true) : ∀ t ∈ ts, Tryf.prog.readableRec t = true ∧ t < Tryf.prog.types.size := by
  intro t ht
  have := List.all_eq_true.1 h t ht
  simp only [Bool.and_eq_true, decide_eq_true_eq] at this
  exact this

end Go.Proofs.Qxb6613194aFmt
