import Derived.Test.Qxb6613194aFmtPack
import Derived.Laws.AppendOwnNone
namespace Go.Proofs.Qxb6613194aFmt
open Go.RowKit

/-- A row of bytes of the call's own, behind a name that the walk does not open. -/
def OB (w : World) (base : Nat) (v : Value) (n : Nat) (xs : List Int) : Prop := w.ownsRow base 5 1 v n (xs.map (Value.int .u8))
theorem OB.out {w : World} {base : Nat} {v : Value} {n : Nat} {xs : List Int} (h : OB w base v n xs) : w.ownsRow base 5 1 v n (xs.map (Value.int .u8)) := h
theorem OB.alloc {w : World} {base : Nat} {v : Value} {n : Nat} {xs : List Int} (h : OB w base v n xs) (o : Obj) : OB (w.alloc o) base v n xs := World.ownsRow.alloc h o
theorem OB.lt {w : World} {base : Nat} {v : Value} {n : Nat} {xs : List Int} (h : OB w base v n xs) : ∀ k, v.ownBlock = some k → base ≤ k ∧ k < w.heap.size := World.ownsRow.lt h
theorem OB.nil (w : World) (base : Nat) : OB w base (.slice none 0 0) 0 [] := World.ownsRow_nil _ _ _ _
theorem OB.len {w : World} {base : Nat} {v : Value} {n : Nat} {xs : List Int} (h : OB w base v n xs) : xs.length = n := by
  have := h.out.1
  simpa using this
theorem OB.kept {w w' : World} {base : Nat} {v : Value} {n : Nat} {xs : List Int} {row : Option Nat} (h : OB w base v n xs) (hg : w.grownBy w' row) (hne : v.ownBlock = none ∨ v.ownBlock ≠ row) : OB w' base v n xs := World.ownsRow.kept h hg hne
theorem OB.below {w w' : World} {base : Nat} {v : Value} {n : Nat} {xs : List Int} (h : OB w base v n xs) (hb : Below w.heap.size w w') : OB w' base v n xs := own_below h hb
theorem OB.cast {w : World} {base : Nat} {v : Value} {n n' : Nat} {xs xs' : List Int} (h : OB w base v n xs) (h1 : n = n') (h2 : xs = xs') : OB w base v n' xs' := by subst h1; subst h2; exact h

/-- 'append(out, src...)' of bytes, out the call's own, the source whatever. -/
theorem app_bytes (w : World) {ops : Array Oper} {rest : List Oper} {o : Oper} {a : Act} {Q : Exit → Act → World → Prop} (hgd : o.guard = none) (s x : Operand)
    (ho : o.op = .call { callee := .builtin .append, args := #[s, x], argTypes := #[23, 23] })
    (base : Nat) (v : Value) (n : Nat) (xs : List Int) (hs : a.eval s = v) (hown : OB w base v n xs)
    (ao : Option Addr) (m c : Nat) (ys : List Int) (hx : a.eval x = .slice ao m c) (hl : ys.length = m) (hnone : ao = none → m = 0 ∧ c = 0)
    (hc : ∀ ad, ao = some ad → ∀ j, j < m → w.cell? (ad.add j) = some (.int .u8 (ys.getD j 0))) (hsm : n + m ≤ 100000000) (hbase : base ≤ w.heap.size)
    (h : ∀ v' w', OB w' base v' (n + m) (xs ++ ys) → w.grownBy w' v.ownBlock → wpList Tryf.prog ops Q rest (a.put o.dst v') w') :
    wpList Tryf.prog ops Q (o :: rest) a w := by
  obtain ⟨i0, hi, hz0, hz1, hz2⟩ := info_parts Tryf.info5
  cases ao with
  | none =>
    obtain ⟨rfl, rfl⟩ := hnone rfl
    obtain rfl : ys = [] := List.eq_nil_of_length_eq_zero hl
    refine wpList_append_own_none hgd s x 23 ho base 5 i0 1 Tryf.underlying23 hi v n _ hs hown hx ?_
    exact h v w (hown.cast rfl (by simp)) (World.grownBy.refl _ _)
  | some ad =>
    refine wpList_append_own w hgd s x 23 ho base 5 i0 (.int .u8 0) 1 1 Tryf.underlying23 hi hz0 hz1 hz2 rfl (by decide) v n _ hs hown ad m c (ys.map (Value.int .u8)) hx (by simp [hl]) ?_ (ints_oneCell _ _) (by unfold maxLen; omega) (by omega) hbase ?_
    · intro j u hu
      rw [List.getElem?_map] at hu
      have hj : j < m := by
        rcases Nat.lt_or_ge j ys.length with h1 | h1
        · omega
        · rw [List.getElem?_eq_none h1] at hu; simp at hu
      rw [hc ad rfl j hj]
      rw [List.getElem?_eq_getElem (by omega)] at hu
      rw [List.getD_eq_getElem?_getD, List.getElem?_eq_getElem (by omega)]
      simpa using hu
    · intro v' w' h1 h2 _
      exact h v' w' (by unfold OB; rw [List.map_append]; exact h1) h2

theorem Rd.src {w : World} {B : Nat} {ao : Option Addr} {b off len : Nat} {zs : List Int} (h : Rd w B ao b off len zs) : ∀ ad, ao = some ad → ∀ j, j < len → w.cell? (ad.add j) = some (.int .u8 (zs.getD j 0)) := by
  intro ad had j hj
  have := h.at_ (by omega)
  rw [had] at this
  obtain rfl := Option.some.inj this
  rw [Addr.add_lit]
  exact h.cell j hj

theorem new_src (w : World) (ys : List Int) {B : Nat} (hB : B = w.heap.size) : ∀ ad, some (⟨B, 0, none⟩ : Addr) = some ad → ∀ j, j < ys.length → (w.alloc (.cells (ys.map (Value.int .u8)).toArray 5)).cell? (ad.add j) = some (.int .u8 (ys.getD j 0)) := by
  subst hB
  intro ad had j hj
  obtain rfl := Option.some.inj had
  apply new_cells
  rw [List.getElem?_map, List.getElem?_eq_getElem hj, List.getD_eq_getElem?_getD, List.getElem?_eq_getElem hj]
  rfl

theorem own_src {w : World} {base g n cap : Nat} {xs : List Int} (h : w.ownsRow base 5 1 (.slice (some ⟨g, 0, none⟩) n cap) n (xs.map (Value.int .u8))) : ∀ ad, some (⟨g, 0, none⟩ : Addr) = some ad → ∀ j, j < n → w.cell? (ad.add j) = some (.int .u8 (xs.getD j 0)) := by
  intro ad had j hj
  obtain rfl := Option.some.inj had
  rw [Addr.add_lit, Nat.zero_add]
  exact own_cell h j hj rfl

/-- The value of such a row, nil or not. -/
theorem OB.form {w : World} {base : Nat} {v : Value} {n : Nat} {xs : List Int} (h : OB w base v n xs) :
    ∃ ao c, v = .slice ao n c ∧ (ao = none → n = 0 ∧ c = 0) ∧ (∀ ad, ao = some ad → ∀ j, j < n → w.cell? (ad.add j) = some (.int .u8 (xs.getD j 0))) := by
  rcases h.2 with ⟨rfl, rfl⟩ | ⟨g, cap, cur, rfl, hb, hg, _⟩
  · exact ⟨none, 0, rfl, fun _ => ⟨rfl, rfl⟩, fun ad h => by cases h⟩
  · exact ⟨some ⟨g, 0, none⟩, cap, rfl, (fun h => by cases h), own_src h.out⟩

theorem OB.src {w : World} {base : Nat} {ao : Option Addr} {c n : Nat} {xs : List Int} (h : OB w base (.slice ao n c) n xs) :
    (ao = none → n = 0 ∧ c = 0) ∧ (∀ ad, ao = some ad → ∀ j, j < n → w.cell? (ad.add j) = some (.int .u8 (xs.getD j 0))) := by
  obtain ⟨ao', c', e, h1, h2⟩ := h.form
  simp only [Value.slice.injEq, true_and] at e
  obtain ⟨rfl, rfl⟩ := e
  exact ⟨h1, h2⟩

theorem own_shape {w : World} {base : Nat} {e : TypeId} {size : Nat} {v : Value} {n : Nat} {xs : List Value} (h : w.ownsRow base e size v n xs) (hn : 0 < n) : ∃ g cap, v = .slice (some ⟨g, 0, none⟩) n cap := by
  rcases h.2 with ⟨_, h0⟩ | ⟨g, cap, _, rfl, _⟩
  · omega
  · exact ⟨g, cap, rfl⟩

end Go.Proofs.Qxb6613194aFmt
