import Derived.Test.Qxb6613862aDealt
namespace Go.Proofs.Qxb6613862a
open Go.RowKit

/-- Nothing that was there has turned but the blocks of I. -/
structure Frame (I : Nat → Prop) (w w' : World) : Prop where
  os : w'.os = w.os
  tape : w'.tape = w.tape
  output : w'.output = w.output
  size : w.heap.size ≤ w'.heap.size
  block : ∀ k, k < w.heap.size → ¬ I k → w'.heap[k]? = w.heap[k]?

def upd {α : Type} (f : List UInt8 → α) (k : List UInt8) (v : α) : List UInt8 → α := fun x => if x = k then v else f x
theorem upd_same {α : Type} (f : List UInt8 → α) (k : List UInt8) (v : α) : upd f k v k = v := by simp [upd]
theorem upd_other {α : Type} (f : List UInt8 → α) (k : List UInt8) (v : α) {x : List UInt8} (h : x ≠ k) : upd f k v x = f x := by simp [upd, h]

theorem own_block {w : World} {v : Value} {n : Nat} {xs : List Value} (h : w.ownsRow 0 21 1 v n xs) {g : Nat} (hg : v.ownBlock = some g) : ∃ cur, w.heap[g]? = some (.cells cur 21 (0, 0)) := by
  rcases h.2 with ⟨rfl, _⟩ | ⟨g', cap, cur, rfl, _, hh, _⟩
  · cases hg
  · have : g' = g := by simpa [Value.ownBlock] using hg
    subst this
    exact ⟨cur, hh⟩

theorem own_of_block {w w' : World} {v : Value} {n : Nat} {xs : List Value} (h : w.ownsRow 0 21 1 v n xs) (hb : ∀ g, v.ownBlock = some g → w'.heap[g]? = w.heap[g]?) : w'.ownsRow 0 21 1 v n xs := by
  refine ⟨h.1, ?_⟩
  rcases h.2 with hn | ⟨g, cap, cur, rfl, h0, hh, r⟩
  · exact .inl hn
  · exact .inr ⟨g, cap, cur, rfl, h0, by rw [hb g rfl]; exact hh, r⟩

theorem map_of_block {w w' : World} {bm n : Nat} {D : DataW Unit} (h : w.ownsMap Try.prog 9 ptrR bm n D) (hb : w'.heap[bm]? = w.heap[bm]?) : w'.ownsMap Try.prog 9 ptrR bm n D := by
  obtain ⟨es, clock, h1, h2⟩ := h
  exact ⟨es, clock, hb.trans h1, h2⟩

theorem two_set {w : World} {b : Nat} {x y x' y' : Value} (h : w.heap[b]? = some (.cells #[x, y] 69 (0, 0))) :
    ((w.setCell ⟨b, 0, none⟩ x').setCell ⟨b, 1, none⟩ y').heap[b]? = some (.cells #[x', y'] 69 (0, 0)) := by
  have h1 := heap_setCell_same w b 0 #[x, y] 69 x' h
  have h2 := heap_setCell_same _ b 1 _ 69 y' h1
  rw [h2]
  rfl

section
variable {w : World} {I : Nat → Prop} {p n : Nat} {S : List UInt8 → List Int} {Wn : List UInt8 → Nat} {cnt bw bm : Nat} {D : DataW Unit} {pb : List UInt8 → Nat} {vb : List UInt8 → Value}

/-- What a pool owns lies apart, by the blocks' own types. -/
theorem Pool.apart (h : Pool w I p n S Wn cnt bw bm D pb vb) (s : List UInt8) (hs : S s ≠ []) :
    pb s ≠ p ∧ pb s ≠ bm ∧ (∀ g, (vb s).ownBlock = some g → g ≠ p ∧ g ≠ bm ∧ ∀ s', S s' ≠ [] → g ≠ pb s') ∧ p ≠ bm := by
  obtain ⟨es, clock, hm, _⟩ := h.map
  have hp := h.ph
  have hb := (h.pbh s hs).1
  refine ⟨fun e => ?_, fun e => ?_, fun g hg => ?_, fun e => ?_⟩
  · rw [e, hp] at hb; simp at hb
  · rw [e, hm] at hb; cases hb
  · obtain ⟨cur, hc⟩ := own_block (h.row s hs).1 hg
    refine ⟨fun e => ?_, fun e => ?_, fun s' hs' e => ?_⟩
    · rw [e, hp] at hc; simp at hc
    · rw [e, hm] at hc; cases hc
    · rw [e, (h.pbh s' hs').1] at hc; simp at hc
  · rw [e, hm] at hp; cases hp

theorem Pool.ltb (h : Pool w I p n S Wn cnt bw bm D pb vb) (s : List UInt8) (hs : S s ≠ []) : pb s < w.heap.size := lt_of_block (h.pbh s hs).1

def DPost (I : Nat → Prop) (p n : Nat) (S : List UInt8 → List Int) (Wn : List UInt8 → Nat) (cnt : Nat) (key : List UInt8) (at_ : Int) (wb : Nat) (w : World) (e : Ending) (w' : World) : Prop :=
  e = .returned (.tuple #[]) ∧ (∃ bw bm D pb vb, Pool w' (fun k => I k ∨ (w.heap.size ≤ k ∧ k < w'.heap.size)) p (n + 1) (upd S key (S key ++ [at_])) (upd Wn key wb) (if S key = [] then cnt + 1 else cnt) bw bm D pb vb) ∧ Frame I w w'

theorem pool_known (h : Pool w I p n S Wn cnt bw bm D pb vb) {key : List UInt8} (hk : S key ≠ []) {at_ : Int} {wb : Nat} {e : Ending} {w' : World} (hpost : KnownPost at_ wb (pb key) (S key).length (vb key) (S key) w e w') :
    DPost I p n S Wn cnt key at_ wb w e w' := by
  obtain ⟨rfl, g, cap, w1, hg1, ho1, hat, rfl⟩ := hpost
  have hsz1 := hg1.size
  simp only [World.size_alloc] at hsz1
  obtain ⟨a1, a2, a3, a4⟩ := h.apart key hk
  have hlk := h.ltb key hk
  have hgp : g ≠ pb key := by
    rcases hat with hat | hat
    · exact (a3 g hat).2.2 key hk
    · omega
  have hsame : ∀ k, k < w.heap.size → k ≠ pb key → some k ≠ (vb key).ownBlock → ((w1.setCell ⟨pb key, 0, none⟩ (.slice (some ⟨g, 0, none⟩) ((S key).length + 1) cap)).setCell ⟨pb key, 1, none⟩ (.pointer (some ⟨wb, 0, none⟩))).heap[k]? = w.heap[k]? := by
    intro k h1 h2 h3
    rw [Below.heap_setCell _ _ _ _ h2, Below.heap_setCell _ _ _ _ h2, hg1.block k (by simp; omega) h3, Below.heap_alloc _ _ _ h1]
  have hb1 : w1.heap[pb key]? = some (.cells #[vb key, .pointer (some ⟨Wn key, 0, none⟩)] 69 (0, 0)) := by
    rw [hg1.block (pb key) (by simp; omega) (fun e => by have := a3 _ e.symm; exact this.2.2 key hk rfl), Below.heap_alloc _ _ _ hlk]
    exact (h.pbh key hk).1
  have hszw : ((w1.setCell ⟨pb key, 0, none⟩ (.slice (some ⟨g, 0, none⟩) ((S key).length + 1) cap)).setCell ⟨pb key, 1, none⟩ (.pointer (some ⟨wb, 0, none⟩))).heap.size = w1.heap.size := by simp
  have hgI : I g ∨ (w.heap.size ≤ g ∧ g < w1.heap.size) := by
    rcases hat with hat | hat
    · exact .inl ((h.row key hk).2 g hat)
    · exact .inr ⟨by omega, (ho1.lt g rfl).2⟩
  have hne : ∀ s, upd S key (S key ++ [at_]) s ≠ [] → s ≠ key → S s ≠ [] := fun s h1 h2 => by rwa [upd_other _ _ _ h2] at h1
  have hobk : ∀ s, S s ≠ [] → s ≠ key → ∀ k, (vb s).ownBlock = some k → k < w.heap.size ∧ k ≠ pb key ∧ some k ≠ (vb key).ownBlock := fun s h1 h2 k hk' => by
    refine ⟨((h.row s h1).1.lt k hk').2, ((h.apart s h1).2.2.1 k hk').2.2 key hk, fun e => ?_⟩
    exact (h.dis s key h1 hk h2).2 (hk'.trans e)
  refine ⟨rfl, ⟨bw, bm, D, pb, upd vb key (.slice (some ⟨g, 0, none⟩) ((S key).length + 1) cap), ⟨.inl h.ip, .inl h.im, ?_, ?_, ?_, ?_, ?_, ?_, ?_, ?_⟩⟩, ⟨hg1.os, hg1.tape, hg1.output, by rw [hszw]; omega, fun k h1 h2 => ?_⟩⟩
  · rw [hsame p (lt_of_block h.ph) (fun e => a1 e.symm) (fun e => (a3 p e.symm).1 rfl)]; exact h.ph
  · exact map_of_block (h.map.mono (by omega)) (hsame bm h.map.lt (fun e => a2 e.symm) (fun e => (a3 bm e.symm).2.1 rfl))
  · rw [if_neg hk]; exact h.size
  · intro s
    by_cases e : s = key
    · subst e; rw [upd_same, h.has s]; cases hS : S s with
      | nil => exact absurd hS hk
      | cons a l => rfl
    · rw [upd_other _ _ _ e]; exact h.has s
  · intro s hs
    by_cases e : s = key
    · subst e; exact h.at_ s hk
    · exact h.at_ s (hne s hs e)
  · intro s hs
    by_cases e : s = key
    · subst e
      rw [upd_same, upd_same]
      exact ⟨two_set hb1, .inl (h.pbh s hk).2⟩
    · rw [upd_other _ _ _ e, upd_other _ _ _ e]
      have hs' := hne s hs e
      refine ⟨?_, .inl (h.pbh s hs').2⟩
      rw [hsame (pb s) (h.ltb s hs') (h.dis s key hs' hk e).1 (fun e2 => (a3 _ e2.symm).2.2 s hs' rfl)]
      exact (h.pbh s hs').1
  · intro s hs
    by_cases e : s = key
    · subst e
      rw [upd_same, upd_same]
      constructor
      · have := ownsRow_setCell_other (ownsRow_setCell_other ho1 (a := ⟨pb s, 0, none⟩) (by simp [Value.ownBlock]; exact hgp) (.slice (some ⟨g, 0, none⟩) ((S s).length + 1) cap)) (a := ⟨pb s, 1, none⟩) (by simp [Value.ownBlock]; exact hgp) (.pointer (some ⟨wb, 0, none⟩))
        simpa using this
      · intro g' hg'
        have : g = g' := by simpa [Value.ownBlock] using hg'
        subst this
        rw [hszw]
        exact hgI
    · rw [upd_other _ _ _ e, upd_other _ _ _ e]
      have hs' := hne s hs e
      refine ⟨own_of_block (h.row s hs').1 (fun k hk' => ?_), fun k hk' => .inl ((h.row s hs').2 k hk')⟩
      obtain ⟨q1, q2, q3⟩ := hobk s hs' e k hk'
      exact hsame k q1 q2 q3
  · intro s s' hs hs' hss
    have key1 : ∀ s, upd S key (S key ++ [at_]) s ≠ [] → S s ≠ [] := fun s h1 => by
      by_cases e : s = key
      · rw [e]; exact hk
      · exact hne s h1 e
    refine ⟨(h.dis s s' (key1 s hs) (key1 s' hs') hss).1, ?_⟩
    have hgn : ∀ s, S s ≠ [] → s ≠ key → (vb s).ownBlock ≠ some g := fun s h1 h2 h3 => by
      obtain ⟨q1, q2, q3⟩ := hobk s h1 h2 g h3
      rcases hat with hat | hat
      · exact q3 hat.symm
      · omega
    by_cases e : s = key
    · subst e
      rw [upd_same, upd_other _ _ _ (fun e => hss e.symm)]
      exact fun e2 => hgn s' (key1 s' hs') (fun e => hss e.symm) e2.symm
    · by_cases e' : s' = key
      · subst e'
        rw [upd_same, upd_other _ _ _ e]
        exact fun e2 => hgn s (key1 s hs) e e2
      · rw [upd_other _ _ _ e, upd_other _ _ _ e']
        exact (h.dis s s' (key1 s hs) (key1 s' hs') hss).2
  · exact hsame k h1 (fun e => h2 (by rw [e]; exact (h.pbh key hk).2)) (fun e => h2 ((h.row key hk).2 k e.symm))
end
end Go.Proofs.Qxb6613862a
