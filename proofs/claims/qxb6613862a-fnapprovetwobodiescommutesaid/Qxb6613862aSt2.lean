import Derived.Test.Qxb6613862aSt
namespace Go.Proofs.Qxb6613862a
open Go.RowKit

/-- Behind the first loop: the two rows of dealings, and what is above N is newer. -/
structure A5 (W : World) (N : Nat) (w : World) (ao1 : Option Addr) (b1 L cap1 : Nat) (ao2 : Option Addr) (b2 ct cap2 g1 g2 : Nat) (h : Nat → Nat) (n : Nat) (D Am B1 M1 B2 M2 : Nat → Int) : Prop where
  s : S5 W w ao1 b1 L cap1 ao2 b2 ct cap2 g1 g2 h
  r1 : Rt w g1 n n D B1 M1 Am
  r2 : Rt w g2 n n D B2 M2 Am
  gN : g1 < N ∧ g2 < N ∧ W.heap.size ≤ N ∧ N ≤ w.heap.size
  b1N : 0 < L → b1 < N
  b2N : 0 < ct → b2 < N

section
variable {W w w' : World} {N : Nat} {ao1 : Option Addr} {b1 L cap1 : Nat} {ao2 : Option Addr} {b2 ct cap2 g1 g2 : Nat} {h : Nat → Nat} {n : Nat} {D Am B1 M1 B2 M2 : Nat → Int}

theorem L1.a5 {Bo Me : Nat → Int} (s : L1 W w ao1 b1 L cap1 ao2 b2 ct cap2 g1 g2 h n n D Bo Me Am) : A5 W w.heap.size w ao1 b1 L cap1 ao2 b2 ct cap2 g1 g2 h n D Am Bo Me Bo Me :=
  ⟨s.1, s.2.1, s.2.2, ⟨s.1.lt.1, s.1.lt.2, s.1.bel.size, Nat.le_refl _⟩, s.1.h1.1.lt, s.1.h2.1.lt⟩

theorem A5.step (a : A5 W N w ao1 b1 L cap1 ao2 b2 ct cap2 g1 g2 h n D Am B1 M1 B2 M2) (c : Chg (fun _ => False) w w') : A5 W N w' ao1 b1 L cap1 ao2 b2 ct cap2 g1 g2 h n D Am B1 M1 B2 M2 :=
  ⟨a.s.step c (fun _ x => x.elim), a.r1.keptC c id, a.r2.keptC c id, ⟨a.gN.1, a.gN.2.1, a.gN.2.2.1, Nat.le_trans a.gN.2.2.2 c.size⟩, a.b1N, a.b2N⟩

theorem A5.one (a : A5 W N w ao1 b1 L cap1 ao2 b2 ct cap2 g1 g2 h n D Am B1 M1 B2 M2) {q : Nat} (hq : N ≤ q) {B M : Nat → Int} (c : Chg (fun k => k = g1 ∨ k = q) w w') (r : Rt w' g1 n n D B M Am) :
    A5 W N w' ao1 b1 L cap1 ao2 b2 ct cap2 g1 g2 h n D Am B M B2 M2 := by
  obtain ⟨x1, x2, x3, x4⟩ := a.gN
  obtain ⟨n1, n2, n3⟩ := a.s.ng
  refine ⟨a.s.step c ?_, r, a.r2.keptC c (by omega), ⟨x1, x2, x3, Nat.le_trans x4 c.size⟩, a.b1N, a.b2N⟩
  rintro k (rfl | rfl)
  · exact ⟨n1, fun hl => Ne.symm (a.s.n1 hl).2.1, fun hl => Ne.symm (a.s.n2 hl).2.1⟩
  · exact ⟨by omega, fun hl => by have := a.b1N hl; omega, fun hl => by have := a.b2N hl; omega⟩
theorem A5.two (a : A5 W N w ao1 b1 L cap1 ao2 b2 ct cap2 g1 g2 h n D Am B1 M1 B2 M2) {q : Nat} (hq : N ≤ q) {B M : Nat → Int} (c : Chg (fun k => k = g2 ∨ k = q) w w') (r : Rt w' g2 n n D B M Am) :
    A5 W N w' ao1 b1 L cap1 ao2 b2 ct cap2 g1 g2 h n D Am B1 M1 B M := by
  obtain ⟨x1, x2, x3, x4⟩ := a.gN
  obtain ⟨n1, n2, n3⟩ := a.s.ng
  refine ⟨a.s.step c ?_, a.r1.keptC c (by omega), r, ⟨x1, x2, x3, Nat.le_trans x4 c.size⟩, a.b1N, a.b2N⟩
  rintro k (rfl | rfl)
  · exact ⟨n2, fun hl => Ne.symm (a.s.n1 hl).2.2, fun hl => Ne.symm (a.s.n2 hl).2.2⟩
  · exact ⟨by omega, fun hl => by have := a.b1N hl; omega, fun hl => by have := a.b2N hl; omega⟩

/-- What an approval leaves. -/
def AP (W : World) (N : Nat) (w : World) (ao1 : Option Addr) (b1 L cap1 : Nat) (ao2 : Option Addr) (b2 ct cap2 g1 g2 : Nat) (h : Nat → Nat) (n : Nat) (D Am B1 M1 B2 M2 : Nat → Int) (g q x : Nat) (e : Ending) (w' : World) : Prop :=
  e = .returned (.tuple #[]) ∧ A5 W N w' ao1 b1 L cap1 ao2 b2 ct cap2 g1 g2 h n D Am B1 M1 B2 M2 ∧ Cnt w' q x ∧ Chg (fun k => k = g ∨ k = q) w w'

theorem A5.call11 (a : A5 W N w ao1 b1 L cap1 ao2 b2 ct cap2 g1 g2 h n D Am B1 M1 B2 M2) (hL : L ≤ 65536) (hn : ∀ i, i < L → h i < n) {p q fr : Nat} (body at_ : Int)
    (hp : w.cell? ⟨p, 1, none⟩ = some (.slice ao1 L cap1)) (hpN : N ≤ p) (hq : Cnt w q fr) (hqN : N ≤ q) (hfr : fr ≤ L) :
    Calls Try.prog 22 #[.pointer (some ⟨p, 0, none⟩), .pointer (some ⟨q, 0, none⟩), .int .i64 body, .slice (some ⟨g1, 0, none⟩) n n, .int .i32 at_] w
      (AP W N w ao1 b1 L cap1 ao2 b2 ct cap2 g1 g2 h n D Am (bk h fr at_ B1 (L - fr)) (mtg body h fr at_ M1 (L - fr)) B2 M2 g1 q L) := by
  obtain ⟨x1, x2, x3, x4⟩ := a.gN
  refine (approve22 p q g1 n ao1 b1 L cap1 fr h body at_ D B1 M1 Am w hp hq hfr hL a.s.h1 hn a.r1 (by omega) (by omega) (fun hl => (a.s.n1 hl).2.1)).mono ?_
  rintro e w' ⟨rfl, hr, hc, hch⟩
  exact ⟨rfl, a.one hqN hch hr, hc, hch⟩
theorem A5.call12 (a : A5 W N w ao1 b1 L cap1 ao2 b2 ct cap2 g1 g2 h n D Am B1 M1 B2 M2) (hL : L ≤ 65536) (hn : ∀ i, i < L → h i < n) {p q fr : Nat} (body at_ : Int)
    (hp : w.cell? ⟨p, 1, none⟩ = some (.slice ao1 L cap1)) (hpN : N ≤ p) (hq : Cnt w q fr) (hqN : N ≤ q) (hfr : fr ≤ L) :
    Calls Try.prog 22 #[.pointer (some ⟨p, 0, none⟩), .pointer (some ⟨q, 0, none⟩), .int .i64 body, .slice (some ⟨g2, 0, none⟩) n n, .int .i32 at_] w
      (AP W N w ao1 b1 L cap1 ao2 b2 ct cap2 g1 g2 h n D Am B1 M1 (bk h fr at_ B2 (L - fr)) (mtg body h fr at_ M2 (L - fr)) g2 q L) := by
  obtain ⟨x1, x2, x3, x4⟩ := a.gN
  refine (approve22 p q g2 n ao1 b1 L cap1 fr h body at_ D B2 M2 Am w hp hq hfr hL a.s.h1 hn a.r2 (by omega) (by omega) (fun hl => (a.s.n1 hl).2.2)).mono ?_
  rintro e w' ⟨rfl, hr, hc, hch⟩
  exact ⟨rfl, a.two hqN hch hr, hc, hch⟩
theorem A5.call22 (a : A5 W N w ao1 b1 L cap1 ao2 b2 ct cap2 g1 g2 h n D Am B1 M1 B2 M2) (hL : L ≤ 65536) (hct : ct ≤ L) (hn : ∀ i, i < L → h i < n) {p q fr : Nat} (body at_ : Int)
    (hp : w.cell? ⟨p, 1, none⟩ = some (.slice ao2 ct cap2)) (hpN : N ≤ p) (hq : Cnt w q fr) (hqN : N ≤ q) (hfr : fr ≤ ct) :
    Calls Try.prog 22 #[.pointer (some ⟨p, 0, none⟩), .pointer (some ⟨q, 0, none⟩), .int .i64 body, .slice (some ⟨g2, 0, none⟩) n n, .int .i32 at_] w
      (AP W N w ao1 b1 L cap1 ao2 b2 ct cap2 g1 g2 h n D Am B1 M1 (bk h fr at_ B2 (ct - fr)) (mtg body h fr at_ M2 (ct - fr)) g2 q ct) := by
  obtain ⟨x1, x2, x3, x4⟩ := a.gN
  refine (approve22 p q g2 n ao2 b2 ct cap2 fr h body at_ D B2 M2 Am w hp hq hfr (by omega) a.s.h2 (fun i hi => hn i (by omega)) a.r2 (by omega) (by omega) (fun hl => (a.s.n2 hl).2.2)).mono ?_
  rintro e w' ⟨rfl, hr, hc, hch⟩
  exact ⟨rfl, a.two hqN hch hr, hc, hch⟩

theorem bk_cut {fr ct L : Nat} (h : Nat → Nat) (at_ : Int) (Bo : Nat → Int) (h1 : fr ≤ ct) (h2 : ct ≤ L) : bk h ct at_ (bk h fr at_ Bo (ct - fr)) (L - ct) = bk h fr at_ Bo (L - fr) := by
  have e := bk_add h fr at_ Bo (ct - fr) (L - ct)
  rwa [show fr + (ct - fr) = ct by omega, show ct - fr + (L - ct) = L - fr by omega] at e
theorem mtg_cut {fr ct L : Nat} (body : Int) (h : Nat → Nat) (at_ : Int) (Bo : Nat → Int) (h1 : fr ≤ ct) (h2 : ct ≤ L) : mtg body h ct at_ (mtg body h fr at_ Bo (ct - fr)) (L - ct) = mtg body h fr at_ Bo (L - fr) := by
  have e := mtg_add body h fr at_ Bo (ct - fr) (L - ct)
  rwa [show fr + (ct - fr) = ct by omega, show ct - fr + (L - ct) = L - fr by omega] at e

/-- What the last loop reads. -/
structure F5 (W w : World) (g1 g2 n : Nat) (D Am B1 M1 B2 M2 : Nat → Int) (c : Nat) (f : Nat → Bool) (c' : Nat) (f' : Nat → Bool) : Prop where
  bel : Below W.heap.size W w
  r1 : Rt w g1 n n D B1 M1 Am
  r2 : Rt w g2 n n D B2 M2 Am
  cov : Cov w c n f
  cov' : Cov w c' n f'
theorem F5.step {c c' : Nat} {f f' : Nat → Bool} (a : F5 W w g1 g2 n D Am B1 M1 B2 M2 c f c' f') (k : Chg (fun _ => False) w w') : F5 W w' g1 g2 n D Am B1 M1 B2 M2 c f c' f' :=
  ⟨k.below a.bel a.bel.size (fun _ _ x => x), a.r1.keptC k id, a.r2.keptC k id, a.cov.keptC k id, a.cov'.keptC k id⟩
end
end Go.Proofs.Qxb6613862a
