import Derived.Test.Qxb6613862aPool
namespace Go.Proofs.Qxb6613862a
open Go.RowKit

section
variable {w : World} {I : Nat → Prop} {p n : Nat} {S : List UInt8 → List Int} {Wn : List UInt8 → Nat} {cnt bw bm : Nat} {D : DataW Unit} {pb : List UInt8 → Nat} {vb : List UInt8 → Value}

theorem lit_ne {s key : List UInt8} (h : s ≠ key) : Lit.string s ≠ Lit.string key := fun e => h (by injection e)

theorem pool_new (h : Pool w I p n S Wn cnt bw bm D pb vb) {key : List UInt8} (hk : S key = []) {at_ : Int} {wb : Nat} {e : Ending} {w' : World} (hpost : NewPost key at_ wb bm n D w e w') :
    DPost I p n S Wn cnt key at_ wb w e w' := by
  obtain ⟨rfl, w1, w2, g, cap, hm1, hg1, hg2, ho2, hg, rfl⟩ := hpost
  have hsz1 := hg1.size
  simp only [World.size_alloc] at hsz1
  have hsz2 := hg2.size
  simp only [World.size_alloc] at hsz2
  have hbl := h.map.lt
  have hpl := lt_of_block h.ph
  have hpbm : p ≠ bm := fun e => by
    obtain ⟨es, clock, hm, _⟩ := h.map
    have hp := h.ph
    rw [e, hm] at hp
    cases hp
  have hszw : ((w2.setCell ⟨w.heap.size, 0, none⟩ (.slice (some ⟨g, 0, none⟩) 1 cap)).setCell ⟨w.heap.size, 1, none⟩ (.pointer (some ⟨wb, 0, none⟩))).heap.size = w2.heap.size := by simp
  have hin : ∀ k, k < w1.heap.size → k ≠ w.heap.size → ((w2.setCell ⟨w.heap.size, 0, none⟩ (.slice (some ⟨g, 0, none⟩) 1 cap)).setCell ⟨w.heap.size, 1, none⟩ (.pointer (some ⟨wb, 0, none⟩))).heap[k]? = w1.heap[k]? := by
    intro k h1 h2
    rw [Below.heap_setCell _ _ _ _ h2, Below.heap_setCell _ _ _ _ h2, hg2.block k (by simp; omega) (fun e => by cases e), Below.heap_alloc _ _ _ h1]
  have hsame : ∀ k, k < w.heap.size → k ≠ bm → ((w2.setCell ⟨w.heap.size, 0, none⟩ (.slice (some ⟨g, 0, none⟩) 1 cap)).setCell ⟨w.heap.size, 1, none⟩ (.pointer (some ⟨wb, 0, none⟩))).heap[k]? = w.heap[k]? := by
    intro k h1 h2
    rw [hin k (by omega) (by omega), hg1.block k (by simp; omega) (fun e => h2 (Option.some.inj e)), Below.heap_alloc _ _ _ h1]
  have hb2 : w2.heap[w.heap.size]? = some (.cells #[.slice none 0 0, .pointer none] 69 (0, 0)) := by
    rw [hg2.block w.heap.size (by simp; omega) (fun h => by cases h), Below.heap_alloc _ _ _ (by omega), hg1.block w.heap.size (by simp) (fun h => by have := Option.some.inj h; omega)]
    exact heap_alloc_new w _
  have hgl := (ho2.lt g rfl).2
  have hne : ∀ s, upd S key (S key ++ [at_]) s ≠ [] → s ≠ key → S s ≠ [] := fun s h1 h2 => by rwa [upd_other _ _ _ h2] at h1
  have hob : ∀ s, S s ≠ [] → ∀ k, (vb s).ownBlock = some k → k < w.heap.size ∧ k ≠ bm := fun s h1 k hk' => ⟨((h.row s h1).1.lt k hk').2, ((h.apart s h1).2.2.1 k hk').2.1⟩
  have hIM := h.map.isMap
  refine ⟨rfl, ⟨bw, bm, D.put (.string key) (.lit (.int .i64 (w.heap.size : Nat))), upd pb key w.heap.size, upd vb key (.slice (some ⟨g, 0, none⟩) 1 cap), ⟨.inl h.ip, .inl h.im, ?_, ?_, ?_, ?_, ?_, ?_, ?_, ?_⟩⟩, ⟨?_, ?_, ?_, by rw [hszw]; omega, fun k h1 h2 => ?_⟩⟩
  · rw [hsame p hpl hpbm]; exact h.ph
  · exact map_of_block hm1 (hin bm (by omega) (by omega))
  · rw [if_pos hk, Maps.size_put (h.map.tidy keyed9), h.has key, hk, h.size]
    rfl
  · intro s
    by_cases e : s = key
    · subst e; rw [upd_same, Maps.has_put_same hIM (show WideAt.IsKeyLit (.string s) from trivial), hk]; rfl
    · rw [upd_other _ _ _ e, Maps.has_put_other (lit_ne e)]; exact h.has s
  · intro s hs
    by_cases e : s = key
    · subst e; rw [upd_same, Maps.atKey_put_same hIM (show WideAt.IsKeyLit (.string s) from trivial)]
    · rw [upd_other _ _ _ e, Maps.atKey_put_other (lit_ne e)]; exact h.at_ s (hne s hs e)
  · intro s hs
    by_cases e : s = key
    · subst e
      rw [upd_same, upd_same, upd_same, hszw]
      exact ⟨two_set hb2, .inr ⟨Nat.le_refl _, by omega⟩⟩
    · rw [upd_other _ _ _ e, upd_other _ _ _ e, upd_other _ _ _ e]
      have hs' := hne s hs e
      refine ⟨?_, .inl (h.pbh s hs').2⟩
      rw [hsame (pb s) (h.ltb s hs') (h.apart s hs').2.1]
      exact (h.pbh s hs').1
  · intro s hs
    by_cases e : s = key
    · subst e
      rw [upd_same, upd_same, hk]
      constructor
      · have := ownsRow_setCell_other (ownsRow_setCell_other ho2 (a := ⟨w.heap.size, 0, none⟩) (by simp [Value.ownBlock]; omega) (.slice (some ⟨g, 0, none⟩) 1 cap)) (a := ⟨w.heap.size, 1, none⟩) (by simp [Value.ownBlock]; omega) (.pointer (some ⟨wb, 0, none⟩))
        simpa using this
      · intro g' hg'
        have : g = g' := by simpa [Value.ownBlock] using hg'
        subst this
        rw [hszw]
        exact .inr ⟨by omega, hgl⟩
    · rw [upd_other _ _ _ e, upd_other _ _ _ e]
      have hs' := hne s hs e
      refine ⟨own_of_block (h.row s hs').1 (fun k hk' => ?_), fun k hk' => .inl ((h.row s hs').2 k hk')⟩
      obtain ⟨q1, q2⟩ := hob s hs' k hk'
      exact hsame k q1 q2
  · intro s s' hs hs' hss
    by_cases e : s = key
    · subst e
      have h2 := hne s' hs' (fun e => hss e.symm)
      rw [upd_same, upd_other _ _ _ (fun e => hss e.symm), upd_same, upd_other _ _ _ (fun e => hss e.symm)]
      have l1 := h.ltb s' h2
      refine ⟨by omega, fun e2 => ?_⟩
      have := (hob s' h2 g e2.symm).1
      omega
    · have h1 := hne s hs e
      by_cases e' : s' = key
      · subst e'
        rw [upd_same, upd_other _ _ _ e, upd_same, upd_other _ _ _ e]
        have l1 := h.ltb s h1
        refine ⟨by omega, fun e2 => ?_⟩
        have := (hob s h1 g e2).1
        omega
      · have h2 := hne s' hs' e'
        rw [upd_other _ _ _ e, upd_other _ _ _ e', upd_other _ _ _ e, upd_other _ _ _ e']
        exact h.dis s s' h1 h2 hss
  · exact hg2.os.trans hg1.os
  · exact hg2.tape.trans hg1.tape
  · exact hg2.output.trans hg1.output
  · exact hsame k h1 (fun e => h2 (by rw [e]; exact h.im))

/-- The lookup on a pool. -/
theorem Pool.look (h : Pool w I p n S Wn cnt bw bm D pb vb) (s : ByteArray) (hs : s.size ≤ maxLen) :
    (Instr.lookup 56 (.map (some bm)) (.string s) false).run Try.prog w = .ok (if S s.data.toList = [] then .pointer none else .pointer (some ⟨pb s.data.toList, 0, none⟩)) w := by
  obtain ⟨v, ps, hrun, hv⟩ := h.map.lookup keyed9 Try.underlying56 (Try.zero66 w) ptrR_none (key9 s hs)
  rw [hrun]
  by_cases e : S s.data.toList = []
  · have hh := h.has s.data.toList
    rw [e] at hh
    rw [Maps.atKey_of_not_has hh] at hv
    rw [if_pos e, ptrR_nil_inv hv]
  · rw [h.at_ _ e] at hv
    rw [if_neg e, ptrR_inv hv]

theorem dealt_any (h : Pool w I p n S Wn cnt bw bm D pb vb) (s : ByteArray) (wb : Nat) (at_ : Int) (hn : n ≤ 100000) (hl : (S s.data.toList).length ≤ 100000) (hs : s.size ≤ maxLen) :
    Calls Try.prog 28 #[.pointer (some ⟨p, 0, none⟩), .string s, .pointer (some ⟨wb, 0, none⟩), .int .i32 at_] w (DPost I p n S Wn cnt s.data.toList at_ wb w) := by
  have hrun := h.look s hs
  by_cases e : S s.data.toList = []
  · rw [if_pos e] at hrun
    exact (dealt_new p bw bm n s wb at_ D w hn hs h.ph hrun h.map).mono (fun _ _ hp => pool_new h e hp)
  · rw [if_neg e] at hrun
    exact (dealt_known p bw bm s wb at_ _ _ _ _ _ w hl h.ph hrun (h.pbh _ e).1 (h.row _ e).1 (fun e2 => ((h.apart _ e).2.2.1 _ e2).2.2 _ e rfl)).mono (fun _ _ hp => pool_known h e hp)
end
end Go.Proofs.Qxb6613862a
