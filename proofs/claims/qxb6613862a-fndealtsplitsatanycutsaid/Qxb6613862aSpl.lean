import Derived.Test.Qxb6613862aTri
import Derived.Test.Qxb6613862aLeaf3
namespace Go.Proofs.Qxb6613862a
open Go.RowKit

/-- The three pools of the split, behind k deals. -/
def Spl (N c k : Nat) (PB : Nat → ByteArray) (A : Nat → Int) (V : Nat → Nat) (w wr : World) : Prop :=
  Tri N (N + 2) (N + 5) (N + 8) ⟨keyOfs PB, A, V, k⟩ ⟨keyOfs PB, A, V, min k c⟩ ⟨sh (keyOfs PB) c, sh A c, sh V c, k - c⟩ w wr
/-- .. and the deal k done on the whole one alone. -/
def SplH (N c k : Nat) (PB : Nat → ByteArray) (A : Nat → Int) (V : Nat → Nat) (w wr : World) : Prop :=
  Tri N (N + 2) (N + 5) (N + 8) ⟨keyOfs PB, A, V, k + 1⟩ ⟨keyOfs PB, A, V, min k c⟩ ⟨sh (keyOfs PB) c, sh A c, sh V c, k - c⟩ w wr
def SPost (N c k : Nat) (PB : Nat → ByteArray) (A : Nat → Int) (V : Nat → Nat) (w : World) (e : Ending) (w' : World) : Prop := e = .returned (.tuple #[]) ∧ Spl N c k PB A V w w'
def HPost (N c k : Nat) (PB : Nat → ByteArray) (A : Nat → Int) (V : Nat → Nat) (w : World) (e : Ending) (w' : World) : Prop := e = .returned (.tuple #[]) ∧ SplH N c k PB A V w w'

section
variable {N c k : Nat} {PB : Nat → ByteArray} {A : Nat → Int} {V : Nat → Nat} {w wr : World}
theorem Spl.below (h : Spl N c k PB A V w wr) : Below N w wr := by
  obtain ⟨I, J, K, -, -, -, -, -, -, -, -, -, hb, -⟩ := h
  exact hb
theorem SplH.below (h : SplH N c k PB A V w wr) : Below N w wr := by
  obtain ⟨I, J, K, -, -, -, -, -, -, -, -, -, hb, -⟩ := h
  exact hb
theorem Spl.drewN (h : Spl N c k PB A V w wr) (m : Nat) : Spl N c k PB A V w (wr.drewN m) := by
  obtain ⟨I, J, K, ⟨a1, a2, a3, a4, a5, h1⟩, ⟨b1, b2, b3, b4, b5, h2⟩, ⟨c1, c2, c3, c4, c5, h3⟩, d1, d2, d3, d4, d5, d6, hb, hn⟩ := h
  exact ⟨I, J, K, ⟨a1, a2, a3, a4, a5, h1.drewN m⟩, ⟨b1, b2, b3, b4, b5, h2.drewN m⟩, ⟨c1, c2, c3, c4, c5, h3.drewN m⟩, d1, d2, d3, d4, d5, d6, below_drewN hb m, hn⟩

theorem Spl.whole (h : Spl N c k PB A V w wr) (hk : k ≤ 100000) (hs : (PB k).size ≤ maxLen) {wb : Nat} (hv : V k = wb) :
    Calls Try.prog 11 #[.pointer (some ⟨N + 2, 0, none⟩), .string (PB k), .pointer (some ⟨wb, 0, none⟩), .int .i32 (A k)] wr.drew (HPost N c k PB A V w) :=
  (Tri.dealt h hk hs rfl hv rfl).mono (fun _ _ hp => hp)
theorem SplH.head (h : SplH N c k PB A V w wr) (hkc : k < c) (hk : k ≤ 100000) (hs : (PB k).size ≤ maxLen) {wb : Nat} (hv : V k = wb) :
    Calls Try.prog 11 #[.pointer (some ⟨N + 5, 0, none⟩), .string (PB k), .pointer (some ⟨wb, 0, none⟩), .int .i32 (A k)] wr.drew (SPost N c (k + 1) PB A V w) := by
  have h' := Tri.rot h
  rw [Nat.min_eq_left (by omega)] at h'
  refine (Tri.dealt h' hk hs rfl hv rfl).mono (fun _ _ hp => ?_)
  have hq := hp.rot.rot
  refine ⟨hq.1, ?_⟩
  unfold Spl
  rw [Nat.min_eq_left (by omega), show k + 1 - c = k - c by omega]
  exact hq.2
theorem SplH.tail (h : SplH N c k PB A V w wr) (hkc : c ≤ k) (hk : k ≤ 100000) (hs : (PB k).size ≤ maxLen) {wb : Nat} (hv : V k = wb) :
    Calls Try.prog 11 #[.pointer (some ⟨N + 8, 0, none⟩), .string (PB k), .pointer (some ⟨wb, 0, none⟩), .int .i32 (A k)] wr.drew (SPost N c (k + 1) PB A V w) := by
  have h' := (Tri.rot h).rot
  have e : c + (k - c) = k := by omega
  refine (Tri.dealt h' (by omega) hs (by show keyOfs PB (c + (k - c)) = _; rw [e]; rfl) (by show V (c + (k - c)) = _; rw [e]; exact hv) (by show A (c + (k - c)) = _; rw [e])).mono (fun _ _ hp => ?_)
  have hq := hp.rot
  refine ⟨hq.1, ?_⟩
  unfold Spl
  rw [Nat.min_eq_right (by omega), show k + 1 - c = k - c + 1 by omega]
  have h2 := hq.2
  rw [Nat.min_eq_right (by omega)] at h2
  exact h2

/-- The start. -/
theorem spl_start (w : World) (c : Nat) (PB : Nat → ByteArray) (A : Nat → Int) (V : Nat → Nat) (o1 o2 : Obj) : ∀ w1 w2 w3, w1 = ((w.alloc (.map #[] 0)).alloc (.map #[] 0)).alloc (.cells #[.map (some w.heap.size), .map (some (w.heap.size + 1))] 58) →
    w2 = ((w1.alloc (.map #[] 0)).alloc (.map #[] 0)).alloc (.cells #[.map (some w1.heap.size), .map (some (w1.heap.size + 1))] 58) →
    w3 = ((w2.alloc (.map #[] 0)).alloc (.map #[] 0)).alloc (.cells #[.map (some w2.heap.size), .map (some (w2.heap.size + 1))] 58) →
    Spl w.heap.size c 0 PB A V w ((w3.alloc o1).alloc o2) := by
  intro w1 w2 w3 e1 e2 e3
  have p1 := pool_fresh w (fun _ => 0)
  have p2 := pool_fresh w1 (fun _ => 0)
  have p3 := pool_fresh w2 (fun _ => 0)
  rw [← e1] at p1
  rw [← e2] at p2
  rw [← e3] at p3
  have s1 : w1.heap.size = w.heap.size + 3 := by rw [e1]; simp
  have s2 : w2.heap.size = w.heap.size + 6 := by rw [e2]; simp; omega
  have s3 : w3.heap.size = w.heap.size + 9 := by rw [e3]; simp; omega
  have b1 : ∀ x, x < w1.heap.size → ((w3.alloc o1).alloc o2).heap[x]? = w1.heap[x]? := fun x hx => by
    rw [Below.heap_alloc _ _ _ (by simp; omega), Below.heap_alloc _ _ _ (by omega), e3, Below.heap_alloc _ _ _ (by simp; omega), Below.heap_alloc _ _ _ (by simp; omega), Below.heap_alloc _ _ _ (by omega), e2, Below.heap_alloc _ _ _ (by simp; omega), Below.heap_alloc _ _ _ (by simp; omega), Below.heap_alloc _ _ _ hx]
  have b2 : ∀ x, x < w2.heap.size → ((w3.alloc o1).alloc o2).heap[x]? = w2.heap[x]? := fun x hx => by
    rw [Below.heap_alloc _ _ _ (by simp; omega), Below.heap_alloc _ _ _ (by omega), e3, Below.heap_alloc _ _ _ (by simp; omega), Below.heap_alloc _ _ _ (by simp; omega), Below.heap_alloc _ _ _ (by omega)]
  have b3 : ∀ x, x < w3.heap.size → ((w3.alloc o1).alloc o2).heap[x]? = w3.heap[x]? := fun x hx => by
    rw [Below.heap_alloc _ _ _ (by simp; omega), Below.heap_alloc _ _ _ (by omega)]
  have sz : ((w3.alloc o1).alloc o2).heap.size = w.heap.size + 11 := by simp; omega
  have q1 := p1.kept (fun x hx _ => b1 x hx)
  have q2 := p2.kept (fun x hx _ => b2 x hx)
  have q3 := p3.kept (fun x hx _ => b3 x hx)
  have t2 : w1.heap.size + 2 = w.heap.size + 5 := by omega
  have t3 : w2.heap.size + 2 = w.heap.size + 8 := by omega
  rw [t2] at q2
  rw [t3] at q3
  unfold Spl Tri
  rw [Nat.zero_min, Nat.zero_sub]
  refine ⟨fun x => w.heap.size < x ∧ x < w.heap.size + 3, fun x => w1.heap.size < x ∧ x < w1.heap.size + 3, fun x => w2.heap.size < x ∧ x < w2.heap.size + 3, ⟨_, _, _, _, _, q1⟩, ⟨_, _, _, _, _, q2⟩, ⟨_, _, _, _, _, q3⟩, ?_, ?_, ?_, ?_, ?_, ?_, ?_, Nat.le_refl _⟩
  · intro x hx; rw [sz]; omega
  · intro x hx; rw [sz]; omega
  · intro x hx; rw [sz]; omega
  · intro x hx; omega
  · intro x hx; omega
  · intro x hx; omega
  · have g1 : Below w.heap.size w w1 := by rw [e1]; exact ((((Below.refl _ _).alloc (by simp) _).alloc (by simp) _).alloc (by simp; omega) _)
    have g2 : Below w.heap.size w w2 := by rw [e2]; exact (((g1.alloc (by omega) _).alloc (by simp; omega) _).alloc (by simp; omega) _)
    have g3 : Below w.heap.size w w3 := by rw [e3]; exact (((g2.alloc (by omega) _).alloc (by simp; omega) _).alloc (by simp; omega) _)
    exact (g3.alloc (by omega) _).alloc (by simp; omega) _

/-- What is read of a pool's places. -/
theorem Pool.readAt {I : Nat → Prop} {p n : Nat} {S : List UInt8 → List Int} {Wn : List UInt8 → Nat} {cnt bw bm : Nat} {D : DataW Unit} {pb : List UInt8 → Nat} {vb : List UInt8 → Value}
    (h : Pool wr I p n S Wn cnt bw bm D pb vb) (s : ByteArray) (hs : s.size ≤ maxLen) :
    ∃ (o : Option Addr) (b cap : Nat), Calls Try.prog 13 #[.pointer (some ⟨p, 0, none⟩), .string s] wr (fun e w' => e = .returned (.slice o (S s.data.toList).length cap) ∧ wr = w') ∧ (0 < (S s.data.toList).length → o = some ⟨b, 0, none⟩) ∧
      ∀ j, j < (S s.data.toList).length → wr.cell? ⟨b, j, none⟩ = some (.int .i32 ((S s.data.toList).getD j 0)) := by
  have hc := partyAt_any h s hs
  unfold atOf at hc
  by_cases e : S s.data.toList = []
  · rw [if_pos e] at hc
    rw [e]
    exact ⟨none, 0, 0, hc, fun h => absurd h (Nat.lt_irrefl _), fun j h => absurd h (Nat.not_lt_zero _)⟩
  · rw [if_neg e] at hc
    have hr := (h.row _ e).1
    obtain ⟨g, cap, hv, -⟩ := hr.form (List.length_pos_iff.2 e)
    rw [hv] at hc hr
    refine ⟨some ⟨g, 0, none⟩, g, cap, hc, fun _ => rfl, fun j hj => ?_⟩
    have := hr.cellAt j (by omega)
    rw [this, List.getElem?_map, List.getD_eq_getElem?_getD, List.getElem?_eq_getElem hj]
    rfl

/-- All that is read of the three pools at one deal's party. -/
structure Reads (N : Nat) (s : ByteArray) (wr : World) (ao : Option Addr) (ab ac : Nat) (ho : Option Addr) (hb hc : Nat) (to_ : Option Addr) (tb tc nx ny : Nat) (X Y : Nat → Int) (x : Nat) (hw : Value) (kn : Bool) : Prop where
  ca : Calls Try.prog 13 #[.pointer (some ⟨N + 2, 0, none⟩), .string s] wr (fun e w' => e = .returned (.slice ao (nx + ny) ac) ∧ wr = w')
  ch : Calls Try.prog 13 #[.pointer (some ⟨N + 5, 0, none⟩), .string s] wr (fun e w' => e = .returned (.slice ho nx hc) ∧ wr = w')
  ct : Calls Try.prog 13 #[.pointer (some ⟨N + 8, 0, none⟩), .string s] wr (fun e w' => e = .returned (.slice to_ ny tc) ∧ wr = w')
  aa : 0 < nx + ny → ao = some ⟨ab, 0, none⟩
  ha : 0 < nx → ho = some ⟨hb, 0, none⟩
  ta : 0 < ny → to_ = some ⟨tb, 0, none⟩
  ax : ∀ j, j < nx → wr.cell? ⟨ab, j, none⟩ = some (.int .i32 (X j))
  ay : ∀ j, j < ny → wr.cell? ⟨ab, nx + j, none⟩ = some (.int .i32 (Y j))
  hx : ∀ j, j < nx → wr.cell? ⟨hb, j, none⟩ = some (.int .i32 (X j))
  ty : ∀ j, j < ny → wr.cell? ⟨tb, j, none⟩ = some (.int .i32 (Y j))
  wh : ∀ m, Calls Try.prog 14 #[.pointer (some ⟨N + 5, 0, none⟩), .string s] (wr.drewN m) (fun e w' => e = .returned hw ∧ wr.drewN m = w')
  kt : ∀ m, Calls Try.prog 12 #[.pointer (some ⟨N + 8, 0, none⟩), .string s] (wr.drewN m) (fun e w' => e = .returned (.bool kn) ∧ wr.drewN m = w')
  wt : kn = true → ∀ m, Calls Try.prog 14 #[.pointer (some ⟨N + 8, 0, none⟩), .string s] (wr.drewN m) (fun e w' => e = .returned (.pointer (some ⟨x, 0, none⟩)) ∧ wr.drewN m = w')
  wa : ∀ m, Calls Try.prog 14 #[.pointer (some ⟨N + 2, 0, none⟩), .string s] (wr.drewN m) (fun e w' => e = .returned (.pointer (some ⟨x, 0, none⟩)) ∧ wr.drewN m = w')
  nk : kn = false → hw = .pointer (some ⟨x, 0, none⟩)

theorem Spl.reads {L : Nat} (h : Spl N c L PB A V w wr) (hcL : c ≤ L) {i : Nat} (hi : i < L) (hs : (PB i).size ≤ maxLen) :
    ∃ ao ab ac ho hb hc to_ tb tc nx ny X Y x hw kn, Reads N (PB i) wr ao ab ac ho hb hc to_ tb tc nx ny X Y x hw kn ∧ cntAt (keyOfs PB) A L (keyOfs PB i) = nx + ny := by
  obtain ⟨I, J, K, ⟨a1, a2, a3, a4, a5, h1⟩, ⟨b1, b2, b3, b4, b5, h2⟩, ⟨c1, c2, c3, c4, c5, h3⟩, -⟩ := h
  simp only [Nat.min_eq_right hcL] at h1 h2 h3
  have hne := (Sk_at (keyOfs PB) A hi).2
  obtain ⟨m, rfl⟩ : ∃ m, L = c + m := ⟨L - c, by omega⟩
  rw [show c + m - c = m by omega] at h3
  have hsp := Sk_split (keyOfs PB) A c (keyOfs PB i) m
  have hW1 := Wk_tail (keyOfs PB) A V c (keyOfs PB i) m
  have hW2 := Wk_head (keyOfs PB) A V c (keyOfs PB i) m
  obtain ⟨ao, ab, ac, q1, q2, q3⟩ := h1.readAt (PB i) hs
  obtain ⟨ho, hb, hc, r1, r2, r3⟩ := h2.readAt (PB i) hs
  obtain ⟨to_, tb, tc, s1, s2, s3⟩ := h3.readAt (PB i) hs
  have u1 := fun m => partyWin_any (h1.drewN m) (PB i) hs
  have u2 := fun m => partyWin_any (h2.drewN m) (PB i) hs
  have u3 := fun m => partyWin_any (h3.drewN m) (PB i) hs
  have u4 := fun m => known_any (h3.drewN m) (PB i) hs
  have ek : (PB i).data.toList = keyOfs PB i := rfl
  rw [ek] at q1 q2 q3 r1 r2 r3 s1 s2 s3 u1 u2 u3 u4
  have hl : (Sk (keyOfs PB) A (c + m) (keyOfs PB i)).length = (Sk (keyOfs PB) A c (keyOfs PB i)).length + (Sk (sh (keyOfs PB) c) (sh A c) m (keyOfs PB i)).length := by rw [hsp, List.length_append]
  have hnw : Sk (keyOfs PB) A (c + m) (keyOfs PB i) ≠ [] := fun e => by rw [e] at hne; exact absurd hne (Nat.not_lt_zero _)
  rw [hl] at q1 q2 q3
  unfold winOf at u1 u2 u3
  simp only [if_neg hnw] at u1
  refine ⟨ao, ab, ac, ho, hb, hc, to_, tb, tc, (Sk (keyOfs PB) A c (keyOfs PB i)).length, (Sk (sh (keyOfs PB) c) (sh A c) m (keyOfs PB i)).length, fun j => (Sk (keyOfs PB) A c (keyOfs PB i)).getD j 0, fun j => (Sk (sh (keyOfs PB) c) (sh A c) m (keyOfs PB i)).getD j 0,
    Wk (keyOfs PB) V (c + m) (keyOfs PB i), _, !(Sk (sh (keyOfs PB) c) (sh A c) m (keyOfs PB i)).isEmpty, ⟨q1, r1, s1, q2, r2, s2, fun j hj => ?_, fun j hj => ?_, r3, s3, u2, u4, fun hk m => ?_, u1, fun hk => ?_⟩, hl⟩
  · rw [q3 j (by omega), hsp, List.getD_eq_getElem?_getD, List.getD_eq_getElem?_getD, List.getElem?_append_left hj]
  · rw [q3 _ (by omega), hsp, List.getD_eq_getElem?_getD, List.getD_eq_getElem?_getD, List.getElem?_append_right (by omega)]
    simp
  · have hk' : Sk (sh (keyOfs PB) c) (sh A c) _ (keyOfs PB i) ≠ [] := fun e => by rw [e] at hk; cases hk
    have := u3 m
    rw [if_neg hk', ← hW1 hk'] at this
    exact this
  · have hk' : Sk (sh (keyOfs PB) c) (sh A c) m (keyOfs PB i) = [] := by
      cases e : Sk (sh (keyOfs PB) c) (sh A c) m (keyOfs PB i) with
      | nil => rfl
      | cons a l => rw [e] at hk; cases hk
    have : Sk (keyOfs PB) A c (keyOfs PB i) ≠ [] := fun e => hnw (by rw [hsp, e, hk']; rfl)
    rw [if_neg this, hW2 hk']

theorem Spl.lens {L : Nat} (h : Spl N c L PB A V w wr) (hcL : c ≤ L) : ∃ a b d : Nat, b ≤ a ∧ d ≤ a ∧ a ≤ b + d ∧ a ≤ L ∧ Calls Try.prog 15 #[.pointer (some ⟨N + 2, 0, none⟩)] wr (fun e w' => e = .returned (.int .i64 a) ∧ wr = w') ∧
    Calls Try.prog 15 #[.pointer (some ⟨N + 5, 0, none⟩)] wr (fun e w' => e = .returned (.int .i64 b) ∧ wr = w') ∧ Calls Try.prog 15 #[.pointer (some ⟨N + 8, 0, none⟩)] wr (fun e w' => e = .returned (.int .i64 d) ∧ wr = w') := by
  obtain ⟨I, J, K, ⟨a1, a2, a3, a4, a5, h1⟩, ⟨b1, b2, b3, b4, b5, h2⟩, ⟨c1, c2, c3, c4, c5, h3⟩, -⟩ := h
  simp only [Nat.min_eq_right hcL] at h1 h2 h3
  obtain ⟨m, rfl⟩ : ∃ m, L = c + m := ⟨L - c, by omega⟩
  rw [show c + m - c = m by omega] at h3
  obtain ⟨k1, k2, k3⟩ := Ck_split (keyOfs PB) A c m
  exact ⟨_, _, _, k1, k2, k3, Ck_le _ _ _, len_any h1, len_any h2, len_any h3⟩
end
end Go.Proofs.Qxb6613862a
