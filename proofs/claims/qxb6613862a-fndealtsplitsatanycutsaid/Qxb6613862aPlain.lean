import Derived.Test.Qxb6613862aLeaf2
namespace Go.Proofs.Qxb6613862a
open Go.RowKit

/-- The pool's plain state behind the first k deals. -/
def Sk (P : Nat → List UInt8) (A : Nat → Int) : Nat → List UInt8 → List Int
  | 0 => fun _ => []
  | k + 1 => upd (Sk P A k) (P k) (Sk P A k (P k) ++ [A k])
def Wk (P : Nat → List UInt8) (V : Nat → Nat) : Nat → List UInt8 → Nat
  | 0 => fun _ => 0
  | k + 1 => upd (Wk P V k) (P k) (V k)
def Ck (P : Nat → List UInt8) (A : Nat → Int) : Nat → Nat
  | 0 => 0
  | k + 1 => if Sk P A k (P k) = [] then Ck P A k + 1 else Ck P A k
/-- The last of the first k deals that names the party, d where none does. -/
def lastK (P : Nat → List UInt8) (s : List UInt8) (d : Nat) : Nat → Nat
  | 0 => d
  | k + 1 => if P k = s then k else lastK P s d k

section
variable (P : Nat → List UInt8) (A : Nat → Int) (V : Nat → Nat)
theorem Sk_same (k : Nat) {s : List UInt8} (h : P k = s) : Sk P A (k + 1) s = Sk P A k s ++ [A k] := by subst h; exact upd_same _ _ _
theorem Sk_other (k : Nat) {s : List UInt8} (h : P k ≠ s) : Sk P A (k + 1) s = Sk P A k s := upd_other _ _ _ (fun e => h e.symm)
theorem Sk_len (s : List UInt8) : ∀ k, (Sk P A k s).length ≤ k
  | 0 => Nat.le_refl _
  | k + 1 => by
    have := Sk_len s k
    by_cases h : P k = s
    · rw [Sk_same P A k h]; simp; omega
    · rw [Sk_other P A k h]; omega
theorem Sk_prefix (s : List UInt8) (k : Nat) : ∀ m, ∃ r, Sk P A (k + m) s = Sk P A k s ++ r
  | 0 => ⟨[], by simp⟩
  | m + 1 => by
    obtain ⟨r, hr⟩ := Sk_prefix s k m
    by_cases h : P (k + m) = s
    · exact ⟨r ++ [A (k + m)], by rw [← Nat.add_assoc, Sk_same P A _ h, hr, List.append_assoc]⟩
    · exact ⟨r, by rw [← Nat.add_assoc, Sk_other P A _ h, hr]⟩
theorem Sk_at {i L : Nat} (h : i < L) : (Sk P A L (P i))[(Sk P A i (P i)).length]? = some (A i) ∧ (Sk P A i (P i)).length < (Sk P A L (P i)).length := by
  obtain ⟨r, hr⟩ := Sk_prefix P A (P i) (i + 1) (L - (i + 1))
  rw [show i + 1 + (L - (i + 1)) = L by omega, Sk_same P A i rfl] at hr
  rw [hr]
  simp
theorem Wk_last (s : List UInt8) (d : Nat) : ∀ k, Sk P A k s ≠ [] → Wk P V k s = V (lastK P s d k) ∧ lastK P s d k < k
  | 0, h => absurd rfl h
  | k + 1, h => by
    by_cases e : P k = s
    · subst e
      exact ⟨by simp [Wk, upd_same, lastK], by simp [lastK]⟩
    · rw [Sk_other P A k e] at h
      obtain ⟨h1, h2⟩ := Wk_last s d k h
      simp only [lastK, if_neg e]
      refine ⟨?_, by omega⟩
      rw [← h1]
      exact upd_other _ _ _ (fun e' => e e'.symm)
end
theorem isEmpty_false {l : List Int} (h : l ≠ []) : (!l.isEmpty) = true := by cases l <;> simp_all

section
variable {w : World} {I : Nat → Prop} {p n : Nat} {S : List UInt8 → List Int} {Wn : List UInt8 → Nat} {cnt bw bm : Nat} {D : DataW Unit} {pb : List UInt8 → Nat} {vb : List UInt8 → Value}
theorem Pool.drew (h : Pool w I p n S Wn cnt bw bm D pb vb) : Pool w.drew I p n S Wn cnt bw bm D pb vb := ⟨h.ip, h.im, h.ph, h.map, h.size, h.has, h.at_, h.pbh, h.row, h.dis⟩
theorem Pool.weaken (h : Pool w I p n S Wn cnt bw bm D pb vb) {J : Nat → Prop} (hj : ∀ k, k < w.heap.size → I k → J k) : Pool w J p n S Wn cnt bw bm D pb vb :=
  ⟨hj _ (lt_of_block h.ph) h.ip, hj _ h.map.lt h.im, h.ph, h.map, h.size, h.has, h.at_, fun s hs => ⟨(h.pbh s hs).1, hj _ (h.ltb s hs) (h.pbh s hs).2⟩,
    fun s hs => ⟨(h.row s hs).1, fun g hg => hj g ((h.row s hs).1.lt g hg).2 ((h.row s hs).2 g hg)⟩, h.dis⟩
theorem Pool.kept (h : Pool w I p n S Wn cnt bw bm D pb vb) {w' : World} (hb : ∀ k, k < w.heap.size → I k → w'.heap[k]? = w.heap[k]?) : Pool w' I p n S Wn cnt bw bm D pb vb :=
  ⟨h.ip, h.im, (hb _ (lt_of_block h.ph) h.ip).trans h.ph, map_of_block h.map (hb _ h.map.lt h.im), h.size, h.has, h.at_, fun s hs => ⟨(hb _ (h.ltb s hs) (h.pbh s hs).2).trans (h.pbh s hs).1, (h.pbh s hs).2⟩,
    fun s hs => ⟨own_of_block (h.row s hs).1 (fun g hg => hb g ((h.row s hs).1.lt g hg).2 ((h.row s hs).2 g hg)), (h.row s hs).2⟩, h.dis⟩

theorem Frame.below {B : Nat} {I : Nat → Prop} {w w' : World} (h : Frame I w w') (hB : ∀ k, I k → B ≤ k) (hs : B ≤ w.heap.size) : Below B w w' :=
  ⟨h.os, h.tape, h.output, h.size, fun k hk => h.block k (by omega) (fun hi => by have := hB k hi; omega)⟩

theorem pool_fresh (w : World) (Wn : List UInt8 → Nat) : Pool (((w.alloc (.map #[] 0)).alloc (.map #[] 0)).alloc (.cells #[.map (some w.heap.size), .map (some (w.heap.size + 1))] 58)) (fun k => w.heap.size < k ∧ k < w.heap.size + 3) (w.heap.size + 2) 0 (fun _ => []) Wn 0 w.heap.size (w.heap.size + 1) (.map []) (fun _ => 0) (fun _ => .pointer none) := by
  refine ⟨⟨by omega, by omega⟩, ⟨by omega, by omega⟩, ?_, ?_, rfl, fun s => rfl, fun s h => absurd rfl h, fun s h => absurd rfl h, fun s h => absurd rfl h, fun s s' h => absurd rfl h⟩
  · have := heap_alloc_new ((w.alloc (.map #[] 0)).alloc (.map #[] 0)) (.cells #[.map (some w.heap.size), .map (some (w.heap.size + 1))] 58)
    simpa using this
  · have := (World.ownsMap_made (w.alloc (.map #[] 0)) Try.prog 9 ptrR).alloc (.cells #[.map (some w.heap.size), .map (some (w.heap.size + 1))] 58)
    simpa using this
end
end Go.Proofs.Qxb6613862a
