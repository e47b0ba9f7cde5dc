import Derived.Test.Qxb6613862aKeeps
namespace Go.Proofs.Qxb6613862a
open Go.RowKit

def sh {α : Type} (f : Nat → α) (c : Nat) : Nat → α := fun j => f (c + j)

section
variable (P : Nat → List UInt8) (A : Nat → Int) (V : Nat → Nat) (c : Nat)
theorem Sk_split (s : List UInt8) : ∀ m, Sk P A (c + m) s = Sk P A c s ++ Sk (sh P c) (sh A c) m s
  | 0 => by simp [Sk]
  | m + 1 => by
    have ih := Sk_split s m
    by_cases h : P (c + m) = s
    · rw [← Nat.add_assoc, Sk_same P A _ h, Sk_same (sh P c) (sh A c) m h, ih, List.append_assoc]; rfl
    · rw [← Nat.add_assoc, Sk_other P A _ h, Sk_other (sh P c) (sh A c) m h, ih]
theorem Wk_tail (s : List UInt8) : ∀ m, Sk (sh P c) (sh A c) m s ≠ [] → Wk P V (c + m) s = Wk (sh P c) (sh V c) m s
  | 0, h => absurd rfl h
  | m + 1, h => by
    by_cases e : P (c + m) = s
    · subst e
      exact (upd_same (Wk P V (c + m)) (P (c + m)) (V (c + m))).trans (upd_same (Wk (sh P c) (sh V c) m) (sh P c m) (sh V c m)).symm
    · rw [Sk_other (sh P c) (sh A c) m e] at h
      have ih := Wk_tail s m h
      exact ((upd_other (Wk P V (c + m)) (P (c + m)) (V (c + m)) (fun e' => e e'.symm)).trans ih).trans (upd_other (Wk (sh P c) (sh V c) m) (sh P c m) (sh V c m) (fun e' => e e'.symm)).symm
theorem Wk_head (s : List UInt8) : ∀ m, Sk (sh P c) (sh A c) m s = [] → Wk P V (c + m) s = Wk P V c s
  | 0, _ => rfl
  | m + 1, h => by
    by_cases e : P (c + m) = s
    · rw [Sk_same (sh P c) (sh A c) m e] at h
      simp at h
    · rw [Sk_other (sh P c) (sh A c) m e] at h
      have ih := Wk_head s m h
      exact (upd_other (Wk P V (c + m)) (P (c + m)) (V (c + m)) (fun e' => e e'.symm)).trans ih

/-- The parties met so far, each once. -/
def Kk (P : Nat → List UInt8) (A : Nat → Int) : Nat → List (List UInt8)
  | 0 => []
  | k + 1 => if Sk P A k (P k) = [] then P k :: Kk P A k else Kk P A k
theorem Kk_mem (s : List UInt8) : ∀ k, s ∈ Kk P A k ↔ Sk P A k s ≠ []
  | 0 => by simp [Kk, Sk]
  | k + 1 => by
    have ih := Kk_mem s k
    unfold Kk
    by_cases e : P k = s
    · rw [Sk_same P A k e]
      subst e
      by_cases h : Sk P A k (P k) = []
      · simp [h]
      · rw [if_neg h]
        simp [ih, h]
    · rw [Sk_other P A k e, ← ih]
      split
      · simp [Ne.symm e]
      · rfl
theorem Kk_nodup : ∀ k, (Kk P A k).Nodup
  | 0 => List.nodup_nil
  | k + 1 => by
    unfold Kk
    split
    · rename_i h
      refine List.nodup_cons.2 ⟨fun hm => (Kk_mem P A (P k) k).1 hm h, Kk_nodup k⟩
    · exact Kk_nodup k
theorem Kk_len : ∀ k, (Kk P A k).length = Ck P A k
  | 0 => rfl
  | k + 1 => by
    have := Kk_len k
    unfold Kk Ck
    split <;> simp [this]
end
theorem nodup_le : ∀ (l m : List (List UInt8)), l.Nodup → (∀ x ∈ l, x ∈ m) → l.length ≤ m.length
  | [], _, _, _ => Nat.zero_le _
  | a :: l, m, hn, hs => by
    have hn' := List.nodup_cons.1 hn
    have ha : a ∈ m := hs a (by simp)
    have := nodup_le l (m.erase a) hn'.2 (fun x hx => (List.mem_erase_of_ne (fun e => hn'.1 (by rw [← e]; exact hx))).2 (hs x (by simp [hx])))
    rw [List.length_erase_of_mem ha] at this
    have hp := List.length_pos_of_mem ha
    simp
    omega
theorem Ck_split (P : Nat → List UInt8) (A : Nat → Int) (c m : Nat) : Ck P A c ≤ Ck P A (c + m) ∧ Ck (sh P c) (sh A c) m ≤ Ck P A (c + m) ∧ Ck P A (c + m) ≤ Ck P A c + Ck (sh P c) (sh A c) m := by
  have h1 := Kk_len P A c
  have h2 := Kk_len P A (c + m)
  have h3 := Kk_len (sh P c) (sh A c) m
  have hs := fun s => Sk_split P A c s m
  refine ⟨?_, ?_, ?_⟩
  · rw [← h1, ← h2]
    exact nodup_le _ _ (Kk_nodup P A c) (fun x hx => (Kk_mem P A x _).2 (by rw [hs]; have := (Kk_mem P A x _).1 hx; simp [this]))
  · rw [← h3, ← h2]
    exact nodup_le _ _ (Kk_nodup _ _ m) (fun x hx => (Kk_mem P A x _).2 (by rw [hs]; have := (Kk_mem _ _ x _).1 hx; simp [this]))
  · rw [← h3, ← h2, ← h1, ← List.length_append]
    refine nodup_le _ _ (Kk_nodup P A _) (fun x hx => ?_)
    have := (Kk_mem P A x _).1 hx
    rw [hs] at this
    rw [List.mem_append, Kk_mem, Kk_mem]
    by_cases e : Sk P A c x = []
    · rw [e] at this; exact .inr (by simpa using this)
    · exact .inl e

/-- A script behind k of its deals. -/
structure St where
  P : Nat → List UInt8
  A : Nat → Int
  V : Nat → Nat
  k : Nat
def PKs (I : Nat → Prop) (wr : World) (p : Nat) (s : St) : Prop := ∃ bw bm D pb vb, Pool wr I p s.k (Sk s.P s.A s.k) (Wk s.P s.V s.k) (Ck s.P s.A s.k) bw bm D pb vb
/-- Three pools that share nothing. -/
def Tri (N p q r : Nat) (a b c : St) (w0 wr : World) : Prop :=
  ∃ I J K : Nat → Prop, PKs I wr p a ∧ PKs J wr q b ∧ PKs K wr r c ∧ (∀ x, I x → N ≤ x ∧ x < wr.heap.size) ∧ (∀ x, J x → N ≤ x ∧ x < wr.heap.size) ∧ (∀ x, K x → N ≤ x ∧ x < wr.heap.size) ∧
    (∀ x, I x → ¬ J x) ∧ (∀ x, J x → ¬ K x) ∧ (∀ x, K x → ¬ I x) ∧ Below N w0 wr ∧ N ≤ w0.heap.size
theorem Tri.rot {N p q r : Nat} {a b c : St} {w0 wr : World} (h : Tri N p q r a b c w0 wr) : Tri N q r p b c a w0 wr := by
  obtain ⟨I, J, K, h1, h2, h3, b1, b2, b3, d1, d2, d3, hb, hn⟩ := h
  exact ⟨J, K, I, h2, h3, h1, b2, b3, b1, d2, d3, d1, hb, hn⟩
def TPost (N p q r : Nat) (a b c : St) (w0 : World) (e : Ending) (w' : World) : Prop := e = .returned (.tuple #[]) ∧ Tri N p q r a b c w0 w'
theorem TPost.rot {N p q r : Nat} {a b c : St} {w0 : World} {e : Ending} {w' : World} (h : TPost N p q r a b c w0 e w') : TPost N q r p b c a w0 e w' := ⟨h.1, h.2.rot⟩

theorem Tri.dealt {N p q r : Nat} {P : Nat → List UInt8} {A : Nat → Int} {V : Nat → Nat} {k : Nat} {b c : St} {w0 wr : World} (h : Tri N p q r ⟨P, A, V, k⟩ b c w0 wr) (hk : k ≤ 100000) {s : ByteArray} (hs : s.size ≤ maxLen) (hP : P k = s.data.toList)
    {wb : Nat} (hv : V k = wb) {at_ : Int} (ha : A k = at_) :
    Calls Try.prog 11 #[.pointer (some ⟨p, 0, none⟩), .string s, .pointer (some ⟨wb, 0, none⟩), .int .i32 at_] wr.drew (TPost N p q r ⟨P, A, V, k + 1⟩ b c w0) := by
  subst hv ha
  obtain ⟨I, J, K, ⟨bw, bm, D, pb, vb, h1⟩, h2, h3, b1, b2, b3, d1, d2, d3, hb, hn⟩ := h
  refine (zdealt_any h1.drew s (V k) (A k) hk (Nat.le_trans (Sk_len P A _ k) hk) hs).mono (fun e w' hp => ⟨hp.1, ?_⟩)
  obtain ⟨-, ⟨bw', bm', D', pb', vb', hq⟩, hf⟩ := hp
  have hsz := hf.size
  have hwz : wr.drew.heap.size = wr.heap.size := rfl
  rw [hwz] at hsz
  have hbs := hb.size
  refine ⟨fun x => I x ∨ (wr.drew.heap.size ≤ x ∧ x < w'.heap.size), J, K, ⟨bw', bm', D', pb', vb', ?_⟩, ?_, ?_, ?_, fun x hx => ⟨(b2 x hx).1, by have := (b2 x hx).2; omega⟩, fun x hx => ⟨(b3 x hx).1, by have := (b3 x hx).2; omega⟩, ?_, d2, ?_, hb.drew.trans (hf.below (fun x hx => (b1 x hx).1) (by rw [hwz]; omega)), hn⟩
  · rw [← hP] at hq; exact hq
  · obtain ⟨bw2, bm2, D2, pb2, vb2, g⟩ := h2
    exact ⟨bw2, bm2, D2, pb2, vb2, g.kept (fun x hx hj => hf.block x hx (fun hi => d1 x hi hj))⟩
  · obtain ⟨bw2, bm2, D2, pb2, vb2, g⟩ := h3
    exact ⟨bw2, bm2, D2, pb2, vb2, g.kept (fun x hx hj => hf.block x hx (fun hi => d3 x hj hi))⟩
  · rintro x (hx | ⟨hx, hx2⟩)
    · exact ⟨(b1 x hx).1, by have := (b1 x hx).2; omega⟩
    · rw [hwz] at hx; exact ⟨by omega, hx2⟩
  · rintro x (hx | ⟨hx, hx2⟩) hj
    · exact d1 x hx hj
    · rw [hwz] at hx; have := (b2 x hj).2; omega
  · rintro x hj (hx | ⟨hx, hx2⟩)
    · exact d3 x hj hx
    · rw [hwz] at hx; have := (b3 x hj).2; omega
end Go.Proofs.Qxb6613862a
