import Derived.Test.Qxb6613862aKit
namespace Go.Proofs.Qxb6613862a
open Go.RowKit

/-- A row of int32 that is only read. -/
structure Ints (w : World) (N : Nat) (ao : Option Addr) (b off L : Nat) (h : Nat → Int) : Prop where
  at_ : 0 < L → ao = some ⟨b, off, none⟩
  lt : 0 < L → b < N
  cell : ∀ i, i < L → w.cell? ⟨b, off + i, none⟩ = some (.int .i32 (h i))
  bd : ∀ i, i < L → -2147483648 ≤ h i ∧ h i ≤ 2147483647

/-- The dealings routed, element by element; the first m of n are told. -/
def Rt (w : World) (g n m : Nat) (D Bo Me Am : Nat → Int) : Prop :=
  ∃ arr, w.heap[g]? = some (.cells arr 74 (0, 0)) ∧ arr.size = n * 4 ∧ ∀ i, i < m → arr[i * 4]? = some (.int .i32 (D i)) ∧ arr[i * 4 + 1]? = some (.int .i32 (Bo i)) ∧ arr[i * 4 + 2]? = some (.int .i32 (Me i)) ∧ arr[i * 4 + 3]? = some (.int .i64 (Am i))

/-- Where the body at place at approves the dealings h from, h (from + 1), .. : k of them. -/
def bk (h : Nat → Nat) (fr : Nat) (at_ : Int) (Bo : Nat → Int) : Nat → Nat → Int
  | 0 => Bo
  | k + 1 => fun i => if i = h (fr + k) then min (bk h fr at_ Bo k i) at_ else bk h fr at_ Bo k i
def cv (h : Nat → Nat) (fr : Nat) : Nat → Nat → Bool
  | 0 => fun _ => false
  | k + 1 => fun i => cv h fr k i || decide (i = h (fr + k))
theorem bk_cv (h : Nat → Nat) (fr : Nat) (at_ : Int) (Bo : Nat → Int) (i : Nat) : ∀ k, bk h fr at_ Bo k i = if cv h fr k i then min (Bo i) at_ else Bo i
  | 0 => rfl
  | k + 1 => by
    have ih := bk_cv h fr at_ Bo i k
    unfold bk cv
    by_cases e : i = h (fr + k)
    · simp only [if_pos e, ih, decide_eq_true e, Bool.or_true, if_true]
      split <;> omega
    · simp only [if_neg e, ih, decide_eq_false e, Bool.or_false]
end Go.Proofs.Qxb6613862a
