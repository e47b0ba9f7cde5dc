import Derived.Test.Qxb6613862aKit
import Derived.Deep.AppendLies
namespace Go.Proofs.Qxb6613862a
open Go.RowKit

/-- dealt on a party that the pool knows. -/
def KnownPost (at_ : Int) (wb : Nat) (pb n : Nat) (v : Value) (xs : List Int) (w : World) (e : Ending) (w' : World) : Prop :=
  e = .returned (.tuple #[]) ∧ ∃ (g cap : Nat) (w1 : World), (w.alloc (.cells #[.int .i32 at_] 21)).grownBy w1 v.ownBlock ∧ w1.ownsRow 0 21 1 (.slice (some ⟨g, 0, none⟩) (n + 1) cap) (n + 1) ((xs ++ [at_]).map (Value.int .i32)) ∧
    (v.ownBlock = some g ∨ g = w.heap.size + 1) ∧ w' = (w1.setCell ⟨pb, 0, none⟩ (.slice (some ⟨g, 0, none⟩) (n + 1) cap)).setCell ⟨pb, 1, none⟩ (.pointer (some ⟨wb, 0, none⟩))

theorem cells2 {w : World} {b : Nat} {x y : Value} {t : TypeId} (h : w.heap[b]? = some (.cells #[x, y] t (0, 0))) :
    w.cell? ⟨b, 0, none⟩ = some x ∧ w.cell? ⟨b, 1, none⟩ = some y ∧ w.frozen? ⟨b, 0, none⟩ = false ∧ w.frozen? ⟨b, 1, none⟩ = false := by
  refine ⟨?_, ?_, ?_, ?_⟩ <;> simp [World.cell?, World.frozen?, h]

set_option maxHeartbeats 800000 in
theorem dealt_known (p bw bm : Nat) (s : ByteArray) (wb : Nat) (at_ : Int) (pb n : Nat) (v u : Value) (xs : List Int) (w : World) (hn : n ≤ 100000)
    (ph : w.heap[p]? = some (.cells #[.map (some bw), .map (some bm)] 58 (0, 0)))
    (hrun : (Instr.lookup 56 (.map (some bm)) (.string s) false).run Try.prog w = .ok (.pointer (some ⟨pb, 0, none⟩)) w)
    (hpb : w.heap[pb]? = some (.cells #[v, u] 69 (0, 0))) (hown : w.ownsRow 0 21 1 v n (xs.map (Value.int .i32))) (hne : v.ownBlock ≠ some pb) :
    Calls Try.prog 28 #[.pointer (some ⟨p, 0, none⟩), .string s, .pointer (some ⟨wb, 0, none⟩), .int .i32 at_] w (KnownPost at_ wb pb n v xs w) := by
  obtain ⟨i0, hi, hz0, hz1, hz2⟩ := info_parts Try.info21
  obtain ⟨c0, c1, f0, f1⟩ := cells2 ph
  obtain ⟨d0, d1, e0, e1⟩ := cells2 hpb
  have hlt := lt_of_block hpb
  have HO := hide hown
  have HP := hide hpb
  clear hown ph hpb c0 f0 f1
  go_enter Try.func28, Try.ntmps28
  go_wp2_with (at_builtin; go_must (refine wpList_append_lies _ rfl (.tmp 29) (.tmp 31) 32 rfl 0 21 i0 (.int .i32 0) 1 4 Try.underlying32 hi hz0 hz1 hz2 rfl (by decide) _ _ _ rfl (HO.out.alloc _) ⟨w.heap.size, 0, none⟩ 1 1 [.int .i32 at_] rfl rfl (cell_one_new _ _ _) ?h1 (by decide) ?h3 (by omega) (Nat.zero_le _) (w.heap.size + 1) (by simp) ?_))
  case h1 => intro x hx; simp at hx; subst hx; rfl
  case h3 => unfold maxLen; omega
  intro g cap w1 ho1 hg1 hat hlt1
  have hb1 : w1.heap[pb]? = some (.cells #[v, u] 69 (0, 0)) := by
    rw [hg1.block pb (by simp; omega) (fun h => hne h.symm), Below.heap_alloc _ _ _ hlt]
    exact HP.out
  obtain ⟨d0', d1', e0', e1'⟩ := cells2 hb1
  have HO1 := hide ho1
  have HG1 := hide hg1
  have HAT := hide hat
  clear ho1 hg1 hat hb1 d0 d1 e0 e1
  go_wp2
  go_end0
  refine ⟨rfl, g, cap, w1, HG1.out, ?_, HAT.out, rfl⟩
  have := HO1.out
  simpa using this

/-- dealt on a party that the pool does not know. -/
def NewPost (key : List UInt8) (at_ : Int) (wb bm n : Nat) (D : DataW Unit) (w : World) (e : Ending) (w' : World) : Prop :=
  e = .returned (.tuple #[]) ∧ ∃ (w1 w2 : World) (g cap : Nat), w1.ownsMap Try.prog 9 ptrR bm (n + 1) (D.put (.string key) (.lit (.int .i64 (w.heap.size : Nat)))) ∧ (w.alloc (.cells #[.slice none 0 0, .pointer none] 69)).grownBy w1 (some bm) ∧
    (w1.alloc (.cells #[.int .i32 at_] 21)).grownBy w2 none ∧ w2.ownsRow 0 21 1 (.slice (some ⟨g, 0, none⟩) 1 cap) 1 ([at_].map (Value.int .i32)) ∧ g = w1.heap.size + 1 ∧
    w' = (w2.setCell ⟨w.heap.size, 0, none⟩ (.slice (some ⟨g, 0, none⟩) 1 cap)).setCell ⟨w.heap.size, 1, none⟩ (.pointer (some ⟨wb, 0, none⟩))

set_option maxHeartbeats 800000 in
theorem dealt_new (p bw bm n : Nat) (s : ByteArray) (wb : Nat) (at_ : Int) (D : DataW Unit) (w : World) (hn : n ≤ 100000) (hs : s.size ≤ maxLen)
    (ph : w.heap[p]? = some (.cells #[.map (some bw), .map (some bm)] 58 (0, 0)))
    (hrun : (Instr.lookup 56 (.map (some bm)) (.string s) false).run Try.prog w = .ok (.pointer none) w)
    (hmap : w.ownsMap Try.prog 9 ptrR bm n D) :
    Calls Try.prog 28 #[.pointer (some ⟨p, 0, none⟩), .string s, .pointer (some ⟨wb, 0, none⟩), .int .i32 at_] w (NewPost s.data.toList at_ wb bm n D w) := by
  obtain ⟨i0, hi, hz0, hz1, hz2⟩ := info_parts Try.info21
  obtain ⟨c0, c1, f0, f1⟩ := cells2 ph
  have hlt := lt_of_block ph
  have hbm := hmap.lt
  have HM := hide hmap
  have HK := hide (key9 s hs)
  clear hmap ph c0 f0 f1
  go_enter Try.func28, Try.ntmps28
  go_wp2_with (at_mapUpdate; go_must (refine wpList_mapUpdate_own _ rfl _ _ _ 56 rfl 9 66 keyed9 Try.underlying56 ptrR bm n D rfl (HM.out.alloc _) ?hm _ _ _ rfl rfl HK.out (.lit (.int .i64 (w.heap.size : Nat))) [] rfl ?_))
  case hm => unfold maxLen; omega
  intro w1 hm1 hg1
  have hsz1 := hg1.size
  simp only [World.size_alloc] at hsz1
  have hb1 : w1.heap[w.heap.size]? = some (.cells #[.slice none 0 0, .pointer none] 69 (0, 0)) := by
    rw [hg1.block w.heap.size (by simp) (fun h => by have := Option.some.inj h; omega)]
    exact heap_alloc_new w _
  obtain ⟨d0, d1, e0, e1⟩ := cells2 hb1
  have HM1 := hide hm1
  have HG1 := hide hg1
  have HB1 := hide hb1
  clear hm1 hg1 hb1
  go_wp2_with (at_builtin; go_must (refine wpList_append_lies _ rfl (.tmp 29) (.tmp 31) 32 rfl 0 21 i0 (.int .i32 0) 1 4 Try.underlying32 hi hz0 hz1 hz2 rfl (by decide) _ _ _ rfl (World.ownsRow_nil _ _ _ _) ⟨w1.heap.size, 0, none⟩ 1 1 [.int .i32 at_] rfl rfl (cell_one_new _ _ _) ?h1 (by decide) ?h3 (by omega) (Nat.zero_le _) (w1.heap.size + 1) (by simp) ?_))
  case h1 => intro x hx; simp at hx; subst hx; rfl
  case h3 => unfold maxLen; omega
  intro g cap w2 ho2 hg2 hat hlt2
  have hb2 : w2.heap[w.heap.size]? = some (.cells #[.slice none 0 0, .pointer none] 69 (0, 0)) := by
    rw [hg2.block w.heap.size (by simp; omega) (fun h => by cases h), Below.heap_alloc _ _ _ (by omega)]
    exact HB1.out
  obtain ⟨d0', d1', e0', e1'⟩ := cells2 hb2
  have HO2 := hide ho2
  have HG2 := hide hg2
  have hg : g = w1.heap.size + 1 := by
    rcases hat with h | h
    · cases h
    · exact h
  have HGE := hide hg
  clear ho2 hg2 hat hb2 d0 d1 e0 e1 hg
  go_wp2
  go_end0
  refine ⟨rfl, w1, w2, g, cap, HM1.out, HG1.out, HG2.out, ?_, HGE.out, rfl⟩
  have := HO2.out
  simpa using this
end Go.Proofs.Qxb6613862a
