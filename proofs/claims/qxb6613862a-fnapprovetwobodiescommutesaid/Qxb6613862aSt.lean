import Derived.Test.Qxb6613862aCov
namespace Go.Proofs.Qxb6613862a
open Go.RowKit

/-- The dealings given, that are only read. -/
structure RS (w : World) (N : Nat) (ro : Option Addr) (rb roff n : Nat) (D Bo Me Am : Nat → Int) : Prop where
  at_ : 0 < n → ro = some ⟨rb, roff, none⟩
  lt : 0 < n → rb < N
  c0 : ∀ i, i < n → w.cell? ⟨rb, roff + i * 4, none⟩ = some (.int .i32 (D i))
  c1 : ∀ i, i < n → w.cell? ⟨rb, roff + i * 4 + 1, none⟩ = some (.int .i32 (Bo i))
  c2 : ∀ i, i < n → w.cell? ⟨rb, roff + i * 4 + 2, none⟩ = some (.int .i32 (Me i))
  c3 : ∀ i, i < n → w.cell? ⟨rb, roff + i * 4 + 3, none⟩ = some (.int .i64 (Am i))

theorem cell_block {w w' : World} {b off : Nat} {v : Value} (hb : w'.heap[b]? = w.heap[b]?) (h : w.cell? ⟨b, off, none⟩ = some v) : w'.cell? ⟨b, off, none⟩ = some v := by
  unfold World.cell? at h ⊢
  simp only [hb]
  exact h

theorem RS.kept {w w' : World} {N : Nat} {ro : Option Addr} {rb roff n : Nat} {D Bo Me Am : Nat → Int} (h : RS w N ro rb roff n D Bo Me Am) (hb : ∀ k, k < N → w'.heap[k]? = w.heap[k]?) : RS w' N ro rb roff n D Bo Me Am :=
  ⟨h.at_, h.lt, fun i hi => cell_block (hb _ (h.lt (by omega))) (h.c0 i hi), fun i hi => cell_block (hb _ (h.lt (by omega))) (h.c1 i hi), fun i hi => cell_block (hb _ (h.lt (by omega))) (h.c2 i hi), fun i hi => cell_block (hb _ (h.lt (by omega))) (h.c3 i hi)⟩

theorem minIf_same (x y : Int) (on : Bool) (w : World) : Calls Try.prog 26 #[.int .i32 x, .bool on, .int .i32 y] w fun e w' => e = .returned (.int .i32 (minIfP x on y)) ∧ w' = w :=
  (minIf_any x y on w).mono fun _ _ ⟨h1, h2⟩ => ⟨h1, h2.symm⟩

/-- A new window. -/
def NWPost (held : Value) (w : World) (e : Ending) (w' : World) : Prop :=
  e = .returned (.pointer (some ⟨w.heap.size, 0, none⟩)) ∧ w'.cell? ⟨w.heap.size, 1, none⟩ = some held ∧ w.heap.size < w'.heap.size ∧ Chg (fun _ => False) w w'
theorem window10 (ao : Option Addr) (n c : Nat) (w : World) : Calls Try.prog 10 #[.slice ao n c] w (NWPost (.slice ao n c) w) := by
  go_enter Try.func10, Try.ntmps10
  go_wp2
  go_ret
  refine ⟨rfl, ?_, by simp, (Chg.refl _ w).alloc _⟩
  simp

/-- The state of the two laws: two rows of places, two rows of dealings routed, all new. -/
structure S5 (W w : World) (ao1 : Option Addr) (b1 L cap1 : Nat) (ao2 : Option Addr) (b2 ct cap2 g1 g2 : Nat) (h : Nat → Nat) : Prop where
  bel : Below W.heap.size W w
  h1 : Held w ao1 b1 L cap1 h
  h2 : Held w ao2 b2 ct cap2 h
  n1 : 0 < L → W.heap.size ≤ b1 ∧ b1 ≠ g1 ∧ b1 ≠ g2
  n2 : 0 < ct → W.heap.size ≤ b2 ∧ b2 ≠ g1 ∧ b2 ≠ g2
  ng : W.heap.size ≤ g1 ∧ W.heap.size ≤ g2 ∧ g1 ≠ g2
  lt : g1 < w.heap.size ∧ g2 < w.heap.size

theorem S5.step {W w w' : World} {ao1 : Option Addr} {b1 L cap1 : Nat} {ao2 : Option Addr} {b2 ct cap2 g1 g2 : Nat} {h : Nat → Nat} (s : S5 W w ao1 b1 L cap1 ao2 b2 ct cap2 g1 g2 h)
    {G : Nat → Prop} (hc : Chg G w w') (hG : ∀ k, G k → W.heap.size ≤ k ∧ (0 < L → k ≠ b1) ∧ (0 < ct → k ≠ b2)) : S5 W w' ao1 b1 L cap1 ao2 b2 ct cap2 g1 g2 h where
  bel := hc.below s.bel s.bel.size (fun k hk hg => by have := (hG k hg).1; omega)
  h1 := s.h1.kept hc.size (fun hL => hc.block _ (s.h1.1.lt hL) fun hg => (hG _ hg).2.1 hL rfl)
  h2 := s.h2.kept hc.size (fun hL => hc.block _ (s.h2.1.lt hL) fun hg => (hG _ hg).2.2 hL rfl)
  n1 := s.n1
  n2 := s.n2
  ng := s.ng
  lt := ⟨Nat.lt_of_lt_of_le s.lt.1 hc.size, Nat.lt_of_lt_of_le s.lt.2 hc.size⟩

/-- A counter. -/
def Cnt (w : World) (q x : Nat) : Prop := w.heap[q]? = some (.cells #[.int .i64 (x : Int)] 3 (0, 0))
theorem Cnt.cell {w : World} {q x : Nat} (h : Cnt w q x) : w.cell? ⟨q, 0, none⟩ = some (.int .i64 (x : Int)) := cell_of_row w q 0 _ 3 (0, 0) h
theorem Cnt.kept {w w' : World} {q x : Nat} {G : Nat → Prop} (h : Cnt w q x) (hc : Chg G w w') (hg : ¬ G q) : Cnt w' q x := (hc.block q (Array.getElem?_eq_some_iff.1 h).1 hg).trans h
theorem Cnt.lt {w : World} {q x : Nat} (h : Cnt w q x) : q < w.heap.size := (Array.getElem?_eq_some_iff.1 h).1
theorem Cnt.new (w : World) (x : Nat) : Cnt (w.alloc (.cells #[.int .i64 (x : Int)] 3)) w.heap.size x := by
  show (w.heap.push _)[w.heap.size]? = _
  simp
theorem Rt.keptC {w w' : World} {g n m : Nat} {D Bo Me Am : Nat → Int} {G : Nat → Prop} (h : Rt w g n m D Bo Me Am) (hc : Chg G w w') (hg : ¬ G g) : Rt w' g n m D Bo Me Am := h.kept (hc.block g h.lt hg)
theorem Cov.keptC {w w' : World} {c n : Nat} {f : Nat → Bool} {G : Nat → Prop} (h : Cov w c n f) (hc : Chg G w w') (hg : ¬ G c) : Cov w' c n f := h.kept (hc.block c h.lt hg)

theorem bk_add (h : Nat → Nat) (fr : Nat) (at_ : Int) (Bo : Nat → Int) (a : Nat) : ∀ c, bk h (fr + a) at_ (bk h fr at_ Bo a) c = bk h fr at_ Bo (a + c)
  | 0 => rfl
  | c + 1 => by
    have ih := bk_add h fr at_ Bo a c
    funext i
    rw [← Nat.add_assoc a c 1, bk_succ, bk_succ, ih, Nat.add_assoc fr a c]
theorem mtg_add (body : Int) (h : Nat → Nat) (fr : Nat) (at_ : Int) (Me : Nat → Int) (a c : Nat) : mtg body h (fr + a) at_ (mtg body h fr at_ Me a) c = mtg body h fr at_ Me (a + c) := by
  unfold mtg
  split
  · exact bk_add ..
  · rfl
theorem bk_min (h : Nat → Nat) (fr : Nat) (at_ : Int) (Bo : Nat → Int) (k i : Nat) : bk h fr at_ Bo k i = minIfP (Bo i) (cv h fr k i) at_ := by
  rw [bk_cv]
  unfold minIfP
  rfl
theorem mtg_min (body : Int) (h : Nat → Nat) (fr : Nat) (at_ : Int) (Me : Nat → Int) (k i : Nat) : mtg body h fr at_ Me k i = minIfP (Me i) (cv h fr k i && (body == 3)) at_ := by
  unfold mtg
  by_cases e : body = 3
  · rw [if_pos e, bk_min]; simp [e]
  · rw [if_neg e]
    have : (body == 3) = false := by simpa using e
    simp [this, minIfP]

theorem Ints.take {w : World} {N : Nat} {ao : Option Addr} {b off L : Nat} {h : Nat → Int} (hi : Ints w N ao b off L h) {c : Nat} (hc : c ≤ L) : Ints w N ao b off c h :=
  ⟨fun h => hi.at_ (by omega), fun h => hi.lt (by omega), fun i h => hi.cell i (by omega), fun i h => hi.bd i (by omega)⟩
theorem Ints.nat {w : World} {N : Nat} {ao : Option Addr} {b off L : Nat} {hI : Nat → Int} {h : Nat → Nat} (hi : Ints w N ao b off L hI) (he : ∀ i, i < L → hI i = (h i : Int)) : Ints w N ao b off L (fun i => (h i : Int)) :=
  ⟨hi.at_, hi.lt, fun i hl => by have := hi.cell i hl; rw [he i hl] at this; exact this, fun i hl => by have := hi.bd i hl; rw [he i hl] at this; exact this⟩

/-- What a clone is. -/
def Cloned (w w' : World) (ao : Option Addr) (b L cap : Nat) (h : Nat → Int) : Prop :=
  Ints w' w'.heap.size ao b 0 L h ∧ Below w.heap.size w w' ∧ ((ao = none ∧ L = 0 ∧ cap = 0) ∨ (ao = some ⟨b, 0, none⟩ ∧ cap = L ∧ w.heap.size ≤ b))
theorem Cloned.held {w w' : World} {ao : Option Addr} {b L cap : Nat} {hI : Nat → Int} {h : Nat → Nat} (c : Cloned w w' ao b L cap hI) (he : ∀ i, i < L → hI i = (h i : Int)) : Held w' ao b L cap h ∧ (0 < L → w.heap.size ≤ b) := by
  obtain ⟨h1, h2, h3⟩ := c
  refine ⟨⟨h1.nat he, ?_⟩, ?_⟩
  · rcases h3 with h | ⟨h, h', _⟩
    · exact .inl h
    · exact .inr ⟨h, h'⟩
  · rcases h3 with ⟨_, h, _⟩ | ⟨_, _, h⟩
    · intro; omega
    · exact fun _ => h

def L1 (W w : World) (ao1 : Option Addr) (b1 L cap1 : Nat) (ao2 : Option Addr) (b2 ct cap2 g1 g2 : Nat) (h : Nat → Nat) (n k : Nat) (D Bo Me Am : Nat → Int) : Prop :=
  S5 W w ao1 b1 L cap1 ao2 b2 ct cap2 g1 g2 h ∧ Rt w g1 n k D Bo Me Am ∧ Rt w g2 n k D Bo Me Am

theorem l1_start {W w1 w2 w3 w4 : World} {ao1 : Option Addr} {b1 L cap1 : Nat} {ao2 : Option Addr} {b2 ct cap2 : Nat} {hI : Nat → Int} {h : Nat → Nat} {n : Nat} (D Bo Me Am : Nat → Int)
    (c1 : Cloned W w1 ao1 b1 L cap1 hI) (c2 : Cloned w1 w2 ao2 b2 ct cap2 hI) (hct : ct ≤ L) (he : ∀ i, i < L → hI i = (h i : Int))
    (r3 : Rt w3 w2.heap.size n 0 (fun _ => 0) (fun _ => 0) (fun _ => 0) (fun _ => 0) ∧ Chg (fun _ => False) w2 w3) (r4 : Rt w4 w3.heap.size n 0 (fun _ => 0) (fun _ => 0) (fun _ => 0) (fun _ => 0) ∧ Chg (fun _ => False) w3 w4) :
    L1 W w4 ao1 b1 L cap1 ao2 b2 ct cap2 w2.heap.size w3.heap.size h n 0 D Bo Me Am := by
  have hz : ∀ {w g}, Rt w g n 0 (fun _ => 0) (fun _ => 0) (fun _ => 0) (fun _ => 0) → Rt w g n 0 D Bo Me Am := fun ⟨arr, h1, h2, _⟩ => ⟨arr, h1, h2, fun i hi => absurd hi (Nat.not_lt_zero _)⟩
  obtain ⟨e1, f1⟩ := c1.held he
  obtain ⟨e2, f2⟩ := c2.held (fun i hi => he i (by omega))
  have hc := r3.2.trans r4.2
  have s1 := c1.2.1.size
  have s2 := c2.2.1.size
  have s3 := r3.1.lt
  have s4 := r4.1.lt
  have x2 : Held w2 ao1 b1 L cap1 h := e1.kept s2 (fun hl => c2.2.1.block _ (e1.1.lt hl))
  refine ⟨⟨?_, x2.kept hc.size (fun hl => hc.block _ (x2.1.lt hl) fun x => x), e2.kept hc.size (fun hl => hc.block _ (e2.1.lt hl) fun x => x), ?_, ?_, by omega, by omega⟩, ?_, ?_⟩
  · refine hc.below (c1.2.1.trans (c2.2.1.mono s1)) (by omega) (fun k _ x => x)
  · intro hl
    have a := f1 hl
    have b := e1.1.lt hl
    omega
  · intro hl
    have a := f2 hl
    have b := e2.1.lt hl
    omega
  · exact hz (r3.1.keptC r4.2 fun x => x)
  · exact hz r4.1

theorem L1.drew {W w : World} {ao1 : Option Addr} {b1 L cap1 : Nat} {ao2 : Option Addr} {b2 ct cap2 g1 g2 : Nat} {h : Nat → Nat} {n k : Nat} {D Bo Me Am : Nat → Int} (s : L1 W w ao1 b1 L cap1 ao2 b2 ct cap2 g1 g2 h n k D Bo Me Am) : L1 W w.drew ao1 b1 L cap1 ao2 b2 ct cap2 g1 g2 h n k D Bo Me Am :=
  ⟨s.1.step ((Chg.refl (fun _ => False) w).drew) (fun _ x => x.elim), s.2.1.kept rfl, s.2.2.kept rfl⟩
/-- The first row has taken the next dealing. -/
def L1a (W w : World) (ao1 : Option Addr) (b1 L cap1 : Nat) (ao2 : Option Addr) (b2 ct cap2 g1 g2 : Nat) (h : Nat → Nat) (n k : Nat) (D Bo Me Am : Nat → Int) : Prop :=
  S5 W w ao1 b1 L cap1 ao2 b2 ct cap2 g1 g2 h ∧ Rt w g1 n (k + 1) D Bo Me Am ∧ Rt w g2 n k D Bo Me Am
theorem L1.one {W w w' : World} {ao1 : Option Addr} {b1 L cap1 : Nat} {ao2 : Option Addr} {b2 ct cap2 g1 g2 : Nat} {h : Nat → Nat} {n k : Nat} {D Bo Me Am : Nat → Int} (s : L1 W w ao1 b1 L cap1 ao2 b2 ct cap2 g1 g2 h n k D Bo Me Am)
    (r : Rt w' g1 n (k + 1) D Bo Me Am) (c : Chg (fun k => k = g1) w w') : L1a W w' ao1 b1 L cap1 ao2 b2 ct cap2 g1 g2 h n k D Bo Me Am := by
  obtain ⟨n1, n2, n3⟩ := s.1.ng
  refine ⟨s.1.step c ?_, r, s.2.2.keptC c (Ne.symm n3)⟩
  rintro k rfl
  exact ⟨n1, fun hl => Ne.symm (s.1.n1 hl).2.1, fun hl => Ne.symm (s.1.n2 hl).2.1⟩
theorem L1a.drew {W w : World} {ao1 : Option Addr} {b1 L cap1 : Nat} {ao2 : Option Addr} {b2 ct cap2 g1 g2 : Nat} {h : Nat → Nat} {n k : Nat} {D Bo Me Am : Nat → Int} (s : L1a W w ao1 b1 L cap1 ao2 b2 ct cap2 g1 g2 h n k D Bo Me Am) : L1a W w.drew ao1 b1 L cap1 ao2 b2 ct cap2 g1 g2 h n k D Bo Me Am :=
  ⟨s.1.step ((Chg.refl (fun _ => False) w).drew) (fun _ x => x.elim), s.2.1.kept rfl, s.2.2.kept rfl⟩
theorem L1a.two {W w w' : World} {ao1 : Option Addr} {b1 L cap1 : Nat} {ao2 : Option Addr} {b2 ct cap2 g1 g2 : Nat} {h : Nat → Nat} {n k : Nat} {D Bo Me Am : Nat → Int} (s : L1a W w ao1 b1 L cap1 ao2 b2 ct cap2 g1 g2 h n k D Bo Me Am)
    (r : Rt w' g2 n (k + 1) D Bo Me Am) (c : Chg (fun k => k = g2) w w') : L1 W w' ao1 b1 L cap1 ao2 b2 ct cap2 g1 g2 h n (k + 1) D Bo Me Am := by
  obtain ⟨n1, n2, n3⟩ := s.1.ng
  refine ⟨s.1.step c ?_, s.2.1.keptC c n3, r⟩
  rintro k rfl
  exact ⟨n2, fun hl => Ne.symm (s.1.n1 hl).2.2, fun hl => Ne.symm (s.1.n2 hl).2.2⟩
end Go.Proofs.Qxb6613862a
