import Derived.Test.Qxb6613213aFmtKit
namespace Go.Proofs.Qxb6613213aFmt
open Go.RowKit

def MPost (L : Nat) (h : Nat → Int) (w : World) (e : Ending) (w' : World) : Prop :=
  ∃ (v n : Int) (g : Bool), e = .returned (.tuple #[.int .i64 v, .int .i64 n, .bool g]) ∧ w = w' ∧ (g = false → ∃ i, Dec L h i ∧ n = ((i + 1 : Nat) : Int) ∧ v = acc h (i + 1) ∧ acc h (i + 1) ≤ ((L - (i + 1) : Nat) : Int))

set_option maxHeartbeats 800000 in
theorem model5 (ao : Option Addr) (b off L cap : Nat) (h : Nat → Int) (w : World) (hd : Bts w w.heap.size ao b off L h) (hL : L ≤ 1048576) :
    Calls Tryf.prog 5 #[.slice ao L cap, .bool false] w (MPost L h w) := by
  have HD := hide hd
  clear hd
  go_enter Tryf.func5, Tryf.ntmps5
  go_wp2_with fail
  refine (dec12 ao b off L cap h w HD.out hL).mono ?_
  rintro e w1 ⟨n, x, ok, rfl, rfl, hok⟩
  cases ok
  · go_wp2
    go_ret3
    exact ⟨_, _, _, rfl, rfl, fun h => by cases h⟩
  · obtain ⟨i, hdec, rfl, rfl⟩ := hok rfl
    have hi := hdec.1
    have hb := acc_bd h (i + 1)
    have HX := hide hdec
    clear hdec hok
    generalize hv : acc h (i + 1) = v at *
    replace hv := hide hv
    by_cases hle : v ≤ ((L - (i + 1) : Nat) : Int)
    · go_wp2
      go_ret3
      exact ⟨_, _, _, rfl, rfl, fun _ => ⟨i, HX.out, by simp, hv.out.symm, by rw [hv.out]; exact hle⟩⟩
    · go_wp2
      go_ret3
      exact ⟨_, _, _, rfl, rfl, fun h => by cases h⟩

def UPost (h : Nat → Int) (i : Nat) (w : World) (e : Ending) (w' : World) : Prop := e = .returned (.tuple #[.int .u64 (acc h (i + 1)), .int .i64 ((i + 1 : Nat) : Int)]) ∧ w = w'
theorem acc_last {h : Nat → Int} {i : Nat} (h0 : 0 ≤ h i) (h1 : h i < 128) : bits .or .u64 (acc h i) (IntKind.u64.wrap (h i * 2 ^ (7 * i))) = acc h (i + 1) := by
  conv => rhs; unfold acc
  rw [Int.emod_eq_of_lt h0 h1]

set_option maxHeartbeats 800000 in
theorem uv16 (ao : Option Addr) (b off L cap : Nat) (h : Nat → Int) (i : Nat) (w : World) (hd : Bts w w.heap.size ao b off L h) (hx : Dec L h i) (hL : L ≤ 1048576) :
    Calls Tryf.prog 16 #[.slice ao L cap] w (UPost h i w) := by
  have HD := hide hd
  have HX := hide hx
  have hiL := hx.1
  have hi10 := hx.2.1
  clear hd hx
  obtain rfl := HD.out.at_ (by omega)
  go_enter Tryf.func16, Tryf.ntmps16
  go_wp2
  go_loop [4, 5, 10] (fun x s k => ∃ m : Nat, m ≤ i ∧ k = .int .i64 m ∧ s = .int .u64 (7 * m : Nat) ∧ x = .int .u64 (acc h m)) (fun _ _ k => L - (intOf k).toNat)
  case atStart => exact ⟨0, by omega, rfl, rfl, rfl⟩
  case round =>
    obtain ⟨m, hm, rfl, rfl, rfl⟩ := hrel
    have hcm := HD.out.cell m (by omega)
    have hbm := HD.out.bd m (by omega)
    have hmask := mask127 hbm.1 hbm.2
    have h10 : ((m : Int) == 10) = false := by simp; omega
    by_cases hmi : m < i
    · have h128 := HX.out.2.2.1 m hmi
      go_wp2
      go_round
      case rel => exact ⟨m + 1, by omega, by go_num, by go_num, rfl⟩
      case measure => simp [intOf]; omega
    · obtain rfl : m = i := by omega
      have h128 := HX.out.2.2.2.1
      have hlast := acc_last hbm.1 h128
      have h9' : ((m : Int) == 9) = true ∧ h m ≤ 1 ∨ ((m : Int) == 9) = false := by
        by_cases e : m = 9
        · have := HX.out.2.2.2.2
          exact .inl ⟨by simp [e], by omega⟩
        · exact .inr (by simp; omega)
      rcases h9' with ⟨h9, h1⟩ | h9
      · go_wp2
        go_ret2
        exact ⟨by simp, rfl⟩
      · go_wp2
        go_ret2
        exact ⟨by simp, rfl⟩

/-- Nothing that was there has turned but the blocks of G. -/
structure Chg (G : Nat → Prop) (w w' : World) : Prop where
  os : w'.os = w.os
  tape : w'.tape = w.tape
  output : w'.output = w.output
  size : w.heap.size ≤ w'.heap.size
  block : ∀ k, k < w.heap.size → ¬ G k → w'.heap[k]? = w.heap[k]?

theorem Chg.refl (G : Nat → Prop) (w : World) : Chg G w w := ⟨rfl, rfl, rfl, Nat.le_refl _, fun _ _ _ => rfl⟩
theorem Chg.trans {G : Nat → Prop} {a b c : World} (h : Chg G a b) (k : Chg G b c) : Chg G a c :=
  ⟨k.os.trans h.os, k.tape.trans h.tape, k.output.trans h.output, Nat.le_trans h.size k.size, fun i hi hg => (k.block i (Nat.lt_of_lt_of_le hi h.size) hg).trans (h.block i hi hg)⟩
theorem Chg.mono {G G' : Nat → Prop} {a b : World} (h : Chg G a b) (hg : ∀ k, k < a.heap.size → G k → G' k) : Chg G' a b :=
  ⟨h.os, h.tape, h.output, h.size, fun i hi hn => h.block i hi fun hgi => hn (hg i hi hgi)⟩
theorem Chg.below {G : Nat → Prop} {B : Nat} {a b c : World} (h : Chg G b c) (hb : Below B a b) (hB : B ≤ b.heap.size) (hg : ∀ k, k < B → ¬ G k) : Below B a c :=
  ⟨h.os.trans hb.os, h.tape.trans hb.tape, h.output.trans hb.output, Nat.le_trans hb.size h.size, fun k hk => (h.block k (by omega) (hg k hk)).trans (hb.block k hk)⟩
theorem Chg.drewN {G : Nat → Prop} {a w : World} (h : Chg G a w) (n : Nat) : Chg G a (w.drewN n) := ⟨h.os, h.tape, h.output, h.size, h.block⟩
theorem Chg.setCell {G : Nat → Prop} {a w : World} (h : Chg G a w) {p : Addr} (hp : G p.block ∨ a.heap.size ≤ p.block) (u : Value) : Chg G a (w.setCell p u) := by
  have hb : Below 0 w (w.setCell p u) := (Below.refl 0 w).setCell (Nat.zero_le _) u
  exact ⟨hb.os.trans h.os, hb.tape.trans h.tape, hb.output.trans h.output, Nat.le_trans h.size hb.size, fun k hk hn => by
    rw [heap_setCell_other w p k u (by rintro rfl; rcases hp with hp | hp <;> first | exact hn hp | omega)]
    exact h.block k hk hn⟩
theorem Chg.alloc {G : Nat → Prop} {a w : World} (h : Chg G a w) (o : Obj) : Chg G a (w.alloc o) := by
  have hb : Below 0 w (w.alloc o) := (Below.refl 0 w).alloc (Nat.zero_le _) o
  exact ⟨hb.os.trans h.os, hb.tape.trans h.tape, hb.output.trans h.output, Nat.le_trans h.size hb.size, fun k hk hn => by
    have := h.size
    rw [Below.heap_alloc w o k (by omega)]
    exact h.block k hk hn⟩

/-- A reader that has not failed. -/
def Rdr (w : World) (p : Nat) (v : Value) : Prop := w.heap[p]? = some (.cells #[v, .nilIface] 38 (0, 0))
theorem Rdr.lt {w : World} {p : Nat} {v : Value} (h : Rdr w p v) : p < w.heap.size := (Array.getElem?_eq_some_iff.1 h).1
theorem Rdr.c0 {w : World} {p : Nat} {v : Value} (h : Rdr w p v) : w.cell? ⟨p, 0, none⟩ = some v := cell_of_row w p 0 _ 38 (0, 0) h
theorem Rdr.c1 {w : World} {p : Nat} {v : Value} (h : Rdr w p v) : w.cell? ⟨p, 1, none⟩ = some .nilIface := cell_of_row w p 1 _ 38 (0, 0) h
theorem Rdr.kept {w w' : World} {p : Nat} {v : Value} {G : Nat → Prop} (h : Rdr w p v) (hc : Chg G w w') (hg : ¬ G p) : Rdr w' p v := (hc.block p h.lt hg).trans h

theorem Rdr.set {w : World} {p : Nat} {v : Value} (h : Rdr w p v) (v' : Value) : Rdr (w.setCell ⟨p, 0, none⟩ v') p v' := by
  unfold Rdr
  rw [heap_setCell_same w p 0 _ 38 v' h]
  rfl

/-- What is left behind a number: the rest. -/
def UnPost (h : Nat → Int) (i p b off L cap : Nat) (w : World) (e : Ending) (w' : World) : Prop :=
  e = .returned (.int .u64 (acc h (i + 1))) ∧ ∃ ao', Rdr w' p (.slice ao' (L - (i + 1)) (cap - (i + 1))) ∧ (0 < L - (i + 1) → ao' = some ⟨b, off + (i + 1), none⟩) ∧ Chg (fun k => k = p) w w'

set_option maxHeartbeats 800000 in
theorem un14 (p : Nat) (ao : Option Addr) (b off L cap : Nat) (h : Nat → Int) (i : Nat) (w : World) (hp : Rdr w p (.slice ao L cap)) (hd : Bts w w.heap.size ao b off L h) (hx : Dec L h i) (hL : L ≤ 1048576) (hcap : L ≤ cap) :
    Calls Tryf.prog 14 #[.pointer (some ⟨p, 0, none⟩)] w (UnPost h i p b off L cap w) := by
  have HD := hide hd
  have HX := hide hx
  have hiL := hx.1
  have c0 := hp.c0
  have c1 := hp.c1
  have f0 : w.frozen? ⟨p, 0, none⟩ = false := frozen_of_row w p 0 _ 38 hp
  have HP := hide hp
  clear hp hd hx
  obtain rfl := HD.out.at_ (by omega)
  go_enter Tryf.func14, Tryf.ntmps14
  go_wp2_with fail
  refine (uv16 _ b off L cap h i w HD.out HX.out hL).mono ?_
  rintro e w1 ⟨rfl, rfl⟩
  by_cases hcf : cap = i + 1
  · have hz : cap - (i + 1) = 0 := by omega
    go_wp2
    go_ret
    refine ⟨rfl, some ⟨b, off, none⟩, ?_, fun h => by omega, (Chg.refl (fun k => k = p) w).setCell (.inl rfl) _⟩
    rw [hz]
    exact HP.out.set _
  · go_wp2
    go_ret
    exact ⟨rfl, some ⟨b, off + (i + 1), none⟩, HP.out.set _, fun _ => rfl, (Chg.refl (fun k => k = p) w).setCell (.inl rfl) _⟩

def CtPost (h : Nat → Int) (i p b off L cap : Nat) (w : World) (e : Ending) (w' : World) : Prop :=
  e = .returned (.int .i64 (acc h (i + 1))) ∧ ∃ ao', Rdr w' p (.slice ao' (L - (i + 1)) (cap - (i + 1))) ∧ (0 < L - (i + 1) → ao' = some ⟨b, off + (i + 1), none⟩) ∧ Chg (fun k => k = p) w w'
theorem count13 (p : Nat) (ao : Option Addr) (b off L cap : Nat) (h : Nat → Int) (i : Nat) (w : World) (hp : Rdr w p (.slice ao L cap)) (hd : Bts w w.heap.size ao b off L h) (hx : Dec L h i) (hL : L ≤ 1048576) (hcap : L ≤ cap)
    (hle : acc h (i + 1) ≤ ((L - (i + 1) : Nat) : Int)) : Calls Tryf.prog 13 #[.pointer (some ⟨p, 0, none⟩)] w (CtPost h i p b off L cap w) := by
  have HC := hide (un14 p ao b off L cap h i w hp hd hx hL hcap)
  have hb := acc_bd h (i + 1)
  clear hp hd hx
  go_enter Tryf.func13, Tryf.ntmps13
  go_wp2_with fail
  refine HC.out.mono ?_
  rintro e w1 ⟨rfl, ao', hr, ha, hc⟩
  have c0 := hr.c0
  have HR := hide hr
  have HA := hide ha
  have HCH := hide hc
  clear hr ha hc HC
  generalize hv : acc h (i + 1) = v at *
  replace hv := hide hv
  generalize hl : L - (i + 1) = l at *
  have hl2 : l ≤ 1048576 := by omega
  replace hl := hide hl
  go_wp2
  go_ret
  exact ⟨by rw [hv.out]; rfl, ao', by rw [hl.out]; exact HR.out, by rw [hl.out]; exact HA.out, HCH.out⟩
theorem count8 (p : Nat) (ao : Option Addr) (b off L cap : Nat) (h : Nat → Int) (i : Nat) (w : World) (hp : Rdr w p (.slice ao L cap)) (hd : Bts w w.heap.size ao b off L h) (hx : Dec L h i) (hL : L ≤ 1048576) (hcap : L ≤ cap)
    (hle : acc h (i + 1) ≤ ((L - (i + 1) : Nat) : Int)) : Calls Tryf.prog 8 #[.pointer (some ⟨p, 0, none⟩)] w (CtPost h i p b off L cap w) := by
  have HC := hide (count13 p ao b off L cap h i w hp hd hx hL hcap hle)
  clear hp hd hx hle
  go_enter Tryf.func8, Tryf.ntmps8
  go_wp2_with fail
  refine HC.out.mono ?_
  rintro e w1 ⟨rfl, hr⟩
  replace hr := hide hr
  clear HC
  go_wp2
  go_ret
  exact ⟨rfl, hr.out⟩

def NRPost (v : Value) (w : World) (e : Ending) (w' : World) : Prop := e = .returned (.pointer (some ⟨w.heap.size, 0, none⟩)) ∧ Rdr w' w.heap.size v ∧ Chg (fun _ => False) w w'
theorem new6 (ao : Option Addr) (L cap : Nat) (w : World) : Calls Tryf.prog 6 #[.slice ao L cap] w (NRPost (.slice ao L cap) w) := by
  go_enter Tryf.func6, Tryf.ntmps6
  go_wp2
  go_ret
  refine ⟨rfl, ?_, (Chg.refl _ w).alloc _⟩
  show (w.heap.push _)[w.heap.size]? = _
  simp
theorem rest9 (p : Nat) (ao : Option Addr) (L cap : Nat) (w : World) (hp : Rdr w p (.slice ao L cap)) : Calls Tryf.prog 9 #[.pointer (some ⟨p, 0, none⟩)] w fun e w' => e = .returned (.slice ao L cap) ∧ w = w' := by
  have c0 := hp.c0
  clear hp
  go_enter Tryf.func9, Tryf.ntmps9
  go_wp2
  go_ret
  exact ⟨rfl, rfl⟩
theorem failed10 (p : Nat) (v : Value) (w : World) (hp : Rdr w p v) : Calls Tryf.prog 10 #[.pointer (some ⟨p, 0, none⟩)] w fun e w' => e = .returned (.bool false) ∧ w = w' := by
  have c1 := hp.c1
  clear hp
  go_enter Tryf.func10, Tryf.ntmps10
  go_wp2
  go_ret
  exact ⟨rfl, rfl⟩

set_option maxHeartbeats 800000 in
theorem same11 (ao ao' : Option Addr) (b off b' off' L cap cap' : Nat) (h : Nat → Int) (w : World) (N : Nat) (h1 : Bts w N ao b off L h) (h2 : Bts w N ao' b' off' L h) (hL : L ≤ 1048576) :
    Calls Tryf.prog 11 #[.slice ao L cap, .slice ao' L cap'] w fun e w' => e = .returned (.bool true) ∧ ∃ m, w' = w.drewN m := by
  have H1 := hide h1
  have H2 := hide h2
  clear h1 h2
  go_enter Tryf.func11, Tryf.ntmps11
  go_wp2
  go_loopw [5] (fun i wr => ∃ k m : Nat, k ≤ L ∧ i = .int .i64 k ∧ wr = w.drewN m) (fun i _ => L - (intOf i).toNat)
  case atStart => exact ⟨0, 0, Nat.zero_le _, rfl, rfl⟩
  case round =>
    obtain ⟨k, m, hk, rfl, rfl⟩ := hrel
    by_cases hlt : k < L
    · obtain rfl := H1.out.at_ (by omega)
      obtain rfl := H2.out.at_ (by omega)
      have c1 := H1.out.cell k hlt
      have c2 := H2.out.cell k hlt
      go_wp2_with fail
      go_quiet (fail)
      go_wp2
      go_roundw
      case rel => exact ⟨k + 1, m + nq, by omega, by go_num, rfl⟩
      case measure => simp [intOf]; omega
    · go_wp2
      go_ret
      exact ⟨rfl, m, rfl⟩
end Go.Proofs.Qxb6613213aFmt
