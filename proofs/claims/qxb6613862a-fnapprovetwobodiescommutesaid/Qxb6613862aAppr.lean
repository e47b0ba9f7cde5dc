import Derived.Test.Qxb6613862aRouted
namespace Go.Proofs.Qxb6613862a
open Go.RowKit

/-- A row of int32 that is all of its block, or nil. -/
def Held (w : World) (ao : Option Addr) (b L cap : Nat) (h : Nat → Nat) : Prop :=
  Ints w w.heap.size ao b 0 L (fun i => (h i : Int)) ∧ ((ao = none ∧ L = 0 ∧ cap = 0) ∨ (ao = some ⟨b, 0, none⟩ ∧ cap = L))

theorem Held.kept {w w' : World} {ao : Option Addr} {b L cap : Nat} {h : Nat → Nat} (hh : Held w ao b L cap h) (hs : w.heap.size ≤ w'.heap.size) (hb : 0 < L → w'.heap[b]? = w.heap[b]?) : Held w' ao b L cap h := by
  obtain ⟨hi, hc⟩ := hh
  refine ⟨⟨hi.at_, fun hl => Nat.lt_of_lt_of_le (hi.lt hl) hs, fun i hl => ?_, hi.bd⟩, hc⟩
  have := hi.cell i hl
  unfold World.cell? at this ⊢
  simp only [hb (by omega)]
  exact this

def mtg (body : Int) (h : Nat → Nat) (fr : Nat) (at_ : Int) (Me : Nat → Int) (k : Nat) : Nat → Int := if body = 3 then bk h fr at_ Me k else Me

def ApPost (g q n : Nat) (L fr : Nat) (h : Nat → Nat) (body at_ : Int) (D Bo Me Am : Nat → Int) (w : World) (e : Ending) (w' : World) : Prop :=
  e = .returned (.tuple #[]) ∧ Rt w' g n n D (bk h fr at_ Bo (L - fr)) (mtg body h fr at_ Me (L - fr)) Am ∧ w'.heap[q]? = some (.cells #[.int .i64 L] 3 (0, 0)) ∧ Chg (fun k => k = g ∨ k = q) w w'

theorem Rt.set {w : World} {g n : Nat} {D Bo Me Am Bo' : Nat → Int} (h : Rt w g n n D Bo Me Am) (i : Nat) (x : Int) (hx : ∀ j, Bo' j = if j = i then x else Bo j) :
    Rt (w.setCell ⟨g, i * 4 + 1, none⟩ (.int .i32 x)) g n n D Bo' Me Am := by
  obtain ⟨arr, h1, h2, h3⟩ := h
  refine ⟨_, heap_setCell_same w g _ arr 74 _ h1, by simp [h2], fun j hj => ?_⟩
  have := h3 j hj
  rw [hx j]
  by_cases e : j = i
  · subst e
    refine ⟨?_, ?_, ?_, ?_⟩ <;> (simp only [Array.getElem?_setIfInBounds]; simp [this]; try omega)
  · refine ⟨?_, ?_, ?_, ?_⟩ <;> (simp only [Array.getElem?_setIfInBounds]; rw [if_neg (by omega)]; simp [this, e])
theorem Rt.setM {w : World} {g n : Nat} {D Bo Me Am Me' : Nat → Int} (h : Rt w g n n D Bo Me Am) (i : Nat) (x : Int) (hx : ∀ j, Me' j = if j = i then x else Me j) :
    Rt (w.setCell ⟨g, i * 4 + 2, none⟩ (.int .i32 x)) g n n D Bo Me' Am := by
  obtain ⟨arr, h1, h2, h3⟩ := h
  refine ⟨_, heap_setCell_same w g _ arr 74 _ h1, by simp [h2], fun j hj => ?_⟩
  have := h3 j hj
  rw [hx j]
  by_cases e : j = i
  · subst e
    refine ⟨?_, ?_, ?_, ?_⟩ <;> (simp only [Array.getElem?_setIfInBounds]; simp [this]; try omega)
  · refine ⟨?_, ?_, ?_, ?_⟩ <;> (simp only [Array.getElem?_setIfInBounds]; rw [if_neg (by omega)]; simp [this, e])
end Go.Proofs.Qxb6613862a
