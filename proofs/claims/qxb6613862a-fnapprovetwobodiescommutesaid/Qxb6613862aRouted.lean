import Derived.Test.Qxb6613862aClone
import Derived.BigQuiet
namespace Go.Proofs.Qxb6613862a
open Go.RowKit

theorem Try.info74 : (Try.prog.info? 74).map (fun i => (i.zero, i.size, i.bytes)) = some (some (.agg #[.int .i32 0, .int .i32 0, .int .i32 0, .int .i64 0]), 4, 24) := by kernel_rfl

/-- Nothing that was there has turned but the blocks of G. -/
structure Chg (G : Nat → Prop) (w w' : World) : Prop where
  os : w'.os = w.os
  tape : w'.tape = w.tape
  output : w'.output = w.output
  size : w.heap.size ≤ w'.heap.size
  block : ∀ k, k < w.heap.size → ¬ G k → w'.heap[k]? = w.heap[k]?

theorem Chg.refl (G : Nat → Prop) (w : World) : Chg G w w := ⟨rfl, rfl, rfl, Nat.le_refl _, fun _ _ _ => rfl⟩
theorem Chg.trans {G : Nat → Prop} {a b c : World} (h : Chg G a b) (k : Chg G b c) : Chg G a c :=
  ⟨k.os.trans h.os, k.tape.trans h.tape, k.output.trans h.output, Nat.le_trans h.size k.size, fun i hi hg => (k.block i (Nat.lt_of_lt_of_le hi h.size) hg).trans (h.block i hi hg)⟩
theorem Chg.mono {G G' : Nat → Prop} {a b : World} (h : Chg G a b) (hg : ∀ k, k < a.heap.size → G k → G' k) : Chg G' a b :=
  ⟨h.os, h.tape, h.output, h.size, fun i hi hn => h.block i hi fun hgi => hn (hg i hi hgi)⟩
theorem Chg.below {G : Nat → Prop} {B : Nat} {a b c : World} (h : Chg G b c) (hb : Below B a b) (hB : B ≤ b.heap.size) (hg : ∀ k, k < B → ¬ G k) : Below B a c :=
  ⟨h.os.trans hb.os, h.tape.trans hb.tape, h.output.trans hb.output, Nat.le_trans hb.size h.size, fun k hk => (h.block k (by omega) (hg k hk)).trans (hb.block k hk)⟩
theorem Chg.drew {G : Nat → Prop} {a w : World} (h : Chg G a w) : Chg G a w.drew := ⟨h.os, h.tape, h.output, h.size, h.block⟩
theorem Chg.drewN {G : Nat → Prop} {a w : World} (h : Chg G a w) (n : Nat) : Chg G a (w.drewN n) := ⟨h.os, h.tape, h.output, h.size, h.block⟩
theorem Chg.setCell {G : Nat → Prop} {a w : World} (h : Chg G a w) {p : Addr} (hp : G p.block ∨ a.heap.size ≤ p.block) (u : Value) : Chg G a (w.setCell p u) := by
  have hb : Below 0 w (w.setCell p u) := (Below.refl 0 w).setCell (Nat.zero_le _) u
  exact ⟨hb.os.trans h.os, hb.tape.trans h.tape, hb.output.trans h.output, Nat.le_trans h.size hb.size, fun k hk hn => by
    rw [heap_setCell_other w p k u (by rintro rfl; rcases hp with hp | hp <;> first | exact hn hp | omega)]
    exact h.block k hk hn⟩
theorem Chg.alloc {G : Nat → Prop} {a w : World} (h : Chg G a w) (o : Obj) : Chg G a (w.alloc o) := by
  have hb : Below 0 w (w.alloc o) := (Below.refl 0 w).alloc (Nat.zero_le _) o
  exact ⟨hb.os.trans h.os, hb.tape.trans h.tape, hb.output.trans h.output, Nat.le_trans h.size hb.size, fun k hk hn => by
    have := h.size
    rw [Below.heap_alloc w o k (by omega)]
    exact h.block k hk hn⟩

theorem Rt.kept {w w' : World} {g n m : Nat} {D Bo Me Am : Nat → Int} (h : Rt w g n m D Bo Me Am) (hb : w'.heap[g]? = w.heap[g]?) : Rt w' g n m D Bo Me Am := by
  obtain ⟨arr, h1, h2⟩ := h
  exact ⟨arr, hb.trans h1, h2⟩
theorem Rt.lt {w : World} {g n m : Nat} {D Bo Me Am : Nat → Int} (h : Rt w g n m D Bo Me Am) : g < w.heap.size := by
  obtain ⟨arr, h1, h2⟩ := h
  exact (Array.getElem?_eq_some_iff.1 h1).1
theorem Rt.cells {w : World} {g n m : Nat} {D Bo Me Am : Nat → Int} (h : Rt w g n m D Bo Me Am) (i : Nat) (hi : i < m) :
    w.cell? ⟨g, i * 4, none⟩ = some (.int .i32 (D i)) ∧ w.cell? ⟨g, i * 4 + 1, none⟩ = some (.int .i32 (Bo i)) ∧ w.cell? ⟨g, i * 4 + 2, none⟩ = some (.int .i32 (Me i)) ∧ w.cell? ⟨g, i * 4 + 3, none⟩ = some (.int .i64 (Am i)) := by
  obtain ⟨arr, h1, h2, h3⟩ := h
  have := h3 i hi
  refine ⟨?_, ?_, ?_, ?_⟩ <;> (rw [cell_of_row w g _ arr 74 (0, 0) h1]; simp [this])
theorem Rt.may {w : World} {g n m : Nat} {D Bo Me Am : Nat → Int} (h : Rt w g n m D Bo Me Am) (i : Nat) (hi : i < n) (j : Nat) (hj : j < 4) :
    (∃ x, w.cell? ⟨g, i * 4 + j, none⟩ = some x) ∧ w.frozen? ⟨g, i * 4 + j, none⟩ = false := by
  obtain ⟨arr, h1, h2, h3⟩ := h
  refine ⟨⟨arr[i * 4 + j]'(by omega), ?_⟩, frozen_of_row w g _ arr 74 h1⟩
  rw [cell_of_row w g _ arr 74 (0, 0) h1]
  simp

def RNewPost (n : Nat) (w : World) (e : Ending) (w' : World) : Prop :=
  e = .returned (.slice (some ⟨w.heap.size, 0, none⟩) n n) ∧ Rt w' w.heap.size n 0 (fun _ => 0) (fun _ => 0) (fun _ => 0) (fun _ => 0) ∧ Chg (fun _ => False) w w'

theorem new20_any (n : Nat) (w : World) (hn : n ≤ 65536) : Calls Try.prog 20 #[.int .i64 n] w (RNewPost n w) := by
  obtain ⟨i0, hi, hz0, hz1, hz2⟩ := info_parts Try.info74
  go_enter Try.func20, Try.ntmps20
  go_wp2_with (at_make; go_must (refine wpList_make_full _ rfl _ _ 41 rfl w.heap.size 74 i0 _ 4 Try.underlying41 hi hz0 hz1 _ _ _ _ n rfl rfl rfl rfl ?b2 ?b3 (Nat.le_refl _) ?_))
  case b2 => rw [hz2]; omega
  case b3 => unfold maxLen; omega
  intro w1 hown1 hgrow1
  have hst : Rt w1 w.heap.size n 0 (fun _ => 0) (fun _ => 0) (fun _ => 0) (fun _ => 0) := by
    rcases hown1.2 with ⟨h, _⟩ | ⟨g, cap, cur, h, _, hg, _, _, hcs, _⟩
    · cases h
    · simp only [Value.slice.injEq, Option.some.injEq, Addr.mk.injEq, and_true, true_and] at h
      obtain ⟨rfl, rfl⟩ := h
      exact ⟨cur, hg, hcs, fun i hi => absurd hi (Nat.not_lt_zero _)⟩
  have hb := (Below.refl w.heap.size w).grown hgrow1 (Nat.le_refl _) (fun k h => by cases h)
  have HST := hide hst
  clear hst hown1
  go_wp2
  go_ret
  exact ⟨rfl, HST.out, ⟨hb.os, hb.tape, hb.output, hb.size, fun k hk _ => hb.block k hk⟩⟩

def RSetPost (g n m : Nat) (D Bo Me Am : Nat → Int) (w : World) (e : Ending) (w' : World) : Prop :=
  e = .returned (.tuple #[]) ∧ Rt w' g n (m + 1) D Bo Me Am ∧ Chg (fun k => k = g) w w'

theorem set21_any (g n m : Nat) (D Bo Me Am : Nat → Int) (w : World) (hm : m < n) (h : Rt w g n m D Bo Me Am) :
    Calls Try.prog 21 #[.slice (some ⟨g, 0, none⟩) n n, .int .i64 m, .int .i32 (D m), .int .i32 (Bo m), .int .i32 (Me m), .int .i64 (Am m)] w (RSetPost g n m D Bo Me Am w) := by
  have hg := h.lt
  have hne : (w.heap.size == g) = false := by simp; omega
  obtain ⟨⟨x0, c0⟩, f0⟩ := h.may m hm 0 (by omega)
  obtain ⟨⟨x1, c1⟩, f1⟩ := h.may m hm 1 (by omega)
  obtain ⟨⟨x2, c2⟩, f2⟩ := h.may m hm 2 (by omega)
  obtain ⟨⟨x3, c3⟩, f3⟩ := h.may m hm 3 (by omega)
  rw [Nat.add_zero] at f0 c0
  have HH := hide h
  clear h
  go_enter Try.func21, Try.ntmps21
  go_wp2
  go_end0
  refine ⟨rfl, ?_, ?_⟩
  · obtain ⟨arr, h1, h2, h3⟩ := HH.out
    refine Rt.kept (w := (((w.setCell ⟨g, m * 4, none⟩ (.int .i32 (D m))).setCell ⟨g, m * 4 + 1, none⟩ (.int .i32 (Bo m))).setCell ⟨g, m * 4 + 2, none⟩ (.int .i32 (Me m))).setCell ⟨g, m * 4 + 3, none⟩ (.int .i64 (Am m))) ?_ ?_
    · have e1 := heap_setCell_same w g (m * 4) arr 74 (.int .i32 (D m)) h1
      have e2 := heap_setCell_same _ g (m * 4 + 1) _ 74 (.int .i32 (Bo m)) e1
      have e3 := heap_setCell_same _ g (m * 4 + 2) _ 74 (.int .i32 (Me m)) e2
      have e4 := heap_setCell_same _ g (m * 4 + 3) _ 74 (.int .i64 (Am m)) e3
      refine ⟨_, e4, by simp [h2], fun i hi => ?_⟩
      by_cases hi' : i < m
      · have := h3 i hi'
        refine ⟨?_, ?_, ?_, ?_⟩ <;> (simp only [Array.getElem?_setIfInBounds]; (repeat rw [if_neg (by omega)]); simp [this])
      · obtain rfl : i = m := by omega
        refine ⟨?_, ?_, ?_, ?_⟩ <;> (simp only [Array.getElem?_setIfInBounds, Array.size_setIfInBounds]; simp; omega)
    · refine Below.heap_alloc _ _ _ ?_
      simpa using hg
  · exact (((((Chg.refl (fun k => k = g) w).setCell (.inl rfl) _).setCell (.inl rfl) _).setCell (.inl rfl) _).setCell (.inl rfl) _).alloc _

theorem results_tmp4 {fn : Func} {t u v x : Tmp} (h : fn.results = #[.tmp t, .tmp u, .tmp v, .tmp x]) (tmps : Array Value) (P : Program) (w : World) :
    (results fn tmps).run P w = .ok (.tuple #[tmps.getD t undef, tmps.getD u undef, tmps.getD v undef, tmps.getD x undef]) w := by
  simp [results, h]

def RGetPost (d b m a : Int) (w : World) (e : Ending) (w' : World) : Prop :=
  e = .returned (.tuple #[.int .i32 d, .int .i32 b, .int .i32 m, .int .i64 a]) ∧ Chg (fun _ => False) w w'
theorem get25_any (g n : Nat) (i : Nat) (D Bo Me Am : Nat → Int) (w : World) (hi : i < n) (h : Rt w g n n D Bo Me Am) :
    Calls Try.prog 25 #[.slice (some ⟨g, 0, none⟩) n n, .int .i64 i] w (RGetPost (D i) (Bo i) (Me i) (Am i) w) := by
  obtain ⟨c0, c1, c2, c3⟩ := h.cells i hi
  clear h
  go_enter Try.func25, Try.ntmps25
  go_wp2
  go_quiet (fail)
  go_wp2
  try simp only [Exit.inBlock, Exit.then]
  refine bodyPost_ret (results_tmp4 rfl _ _ _) rfl ?_
  exact ⟨rfl, ((Chg.refl _ w).alloc _).drewN _⟩
end Go.Proofs.Qxb6613862a
