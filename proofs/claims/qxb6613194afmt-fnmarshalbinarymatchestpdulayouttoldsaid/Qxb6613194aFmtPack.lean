import Derived.Test.Qxb6613194aFmtAddrOk
import Derived.Test.Qxb6613194aFmtPackPl
import Derived.BigRegion
namespace Go.Proofs.Qxb6613194aFmt
open Go.RowKit

/-- A slice of bytes that can be read: its address, its length, its bytes; all of it below block B. -/
structure Rd (w : World) (B : Nat) (ao : Option Addr) (b off len : Nat) (zs : List Int) : Prop where
  at_ : 0 < len → ao = some ⟨b, off, none⟩
  lt : 0 < len → b < B
  len_ : zs.length = len
  cell : ∀ j, j < len → w.cell? ⟨b, off + j, none⟩ = some (.int .u8 (zs.getD j 0))
  bd : ∀ j, 0 ≤ zs.getD j 0 ∧ zs.getD j 0 ≤ 255

theorem Rd.below {w w' : World} {B : Nat} {ao : Option Addr} {b off len : Nat} {zs : List Int} (h : Rd w B ao b off len zs) (hb : Below B w w') : Rd w' B ao b off len zs :=
  ⟨h.at_, h.lt, h.len_, fun j hj => (hb.cell (h.lt (by omega))).trans (h.cell j hj), h.bd⟩

/-- The septets of a list, by their places. -/
def nats (zs : List Int) (t : Nat) : Nat := (zs.getD t 0).toNat

theorem set_two {w : World} {base g n cap : Nat} {xs ys : List Int} (h : w.ownsRow base 5 1 (.slice (some ⟨g, 0, none⟩) n cap) n (xs.map (Value.int .u8))) (j j' : Nat) (x x' : Int) (hy : (xs.set j x).set j' x' = ys) :
    ((w.setCell ⟨g, j, none⟩ (.int .u8 x)).setCell ⟨g, j', none⟩ (.int .u8 x')).drew.drew.ownsRow base 5 1 (.slice (some ⟨g, 0, none⟩) n cap) n (ys.map (Value.int .u8)) :=
  (own_set (own_set h j x rfl) j' x' hy).drew.drew

set_option maxHeartbeats 800000 in
theorem pack_any (ao : Option Addr) (b off len cap f : Nat) (zs : List Int) (w : World) (hf : f ≤ 6) (hl : len ≤ 2000000) (hr : Rd w w.heap.size ao b off len zs) :
    Calls Tryf.prog 29 #[.slice ao len cap, .int .i64 f] w fun e w' => e = .returned (.slice (some ⟨w.heap.size, 0, none⟩) ((f + len * 7 + 7) / 8) ((f + len * 7 + 7) / 8)) ∧
      w'.ownsRow w.heap.size 5 1 (.slice (some ⟨w.heap.size, 0, none⟩) ((f + len * 7 + 7) / 8) ((f + len * 7 + 7) / 8)) ((f + len * 7 + 7) / 8) ((Pl.packRow (Pl.packN f (nats zs) len) ((f + len * 7 + 7) / 8)).map (Value.int .u8)) ∧ Below w.heap.size w w' := by
  obtain ⟨i0, hi, hz0, hz1, hz2⟩ := info_parts Tryf.info5
  have HR := hide hr
  clear hr
  generalize hm : (f + len * 7 + 7) / 8 = m
  have HM := hide hm
  clear hm
  go_enter Tryf.func29, Tryf.ntmps29
  go_wp2_with (at_make; refine wpList_make_full _ rfl _ _ 23 rfl w.heap.size 5 i0 (.int .u8 0) 1 Tryf.underlying23 hi hz0 hz1 _ _ _ _ m rfl rfl ?a1 ?a2 ?b2 ?b3 (Nat.le_refl _) ?_)
  case a1 => have := HM.out; omega
  case a2 => have := HM.out; omega
  case b2 => have := HM.out; rw [hz2]; omega
  case b3 => have := HM.out; unfold maxLen; omega
  intro w1 hown1 hgrow1
  go_wp2
  go_loopw [21] (fun i wr => ∃ (k : Nat), k ≤ len ∧ i = .int .i64 k ∧ wr.ownsRow w.heap.size 5 1 (.slice (some ⟨w.heap.size, 0, none⟩) m m) m ((Pl.packRow (Pl.packN f (nats zs) k) m).map (Value.int .u8)) ∧ Below w.heap.size w wr)
     (fun i _ => len - (intOf i).toNat)
  case atStart =>
    refine ⟨0, Nat.zero_le _, rfl, ?_, ?_⟩
    · rw [Pl.packN, Pl.packRow_zero]
      simpa [toList_madeCells_one] using hown1
    · exact (Below.refl _ _).grown hgrow1 (Nat.le_refl _) (fun k h => by cases h)
  case round =>
    obtain ⟨k, hk, rfl, hown, hbel⟩ := hrel
    by_cases hlt : k < len
    · have hRw := HR.out.below hbel
      obtain rfl := HR.out.at_ (by omega)
      have hcz := hRw.cell k hlt
      have hbz := hRw.bd k
      clear hRw
      have ho : (f + k * 7) / 8 < m := by have := HM.out; omega
      have hcell := own_cell hown ((f + k * 7) / 8) ho (Pl.packRow_getD _ _ _ ho)
      have hfro := hown.frozenAt ((f + k * 7) / 8)
      have hbx := Pl.packAt_lt (Pl.packN f (nats zs) k) ((f + k * 7) / 8)
      have hN := Pl.packN_lt f (nats zs) k
      have HN : Hid (Pl.packN f (nats zs) (k + 1) = Pl.packN f (nats zs) k + (zs.getD k 0).toNat % 128 * 2 ^ (8 * ((f + k * 7) / 8) + (f + k * 7) % 8)) := by
        show Pl.packN f (nats zs) k + nats zs k % 128 * 2 ^ (f + 7 * k) = _
        rw [show f + 7 * k = 8 * ((f + k * 7) / 8) + (f + k * 7) % 8 by omega]
        rfl
      rw [show f + 7 * k = 8 * ((f + k * 7) / 8) + (f + k * 7) % 8 by omega] at hN
      have HN2 := hide hN
      clear hN
      generalize Pl.packN f (nats zs) k = N at *
      generalize zs.getD k 0 = z at *
      have hand : bits .and .u8 z 127 = z % 128 := and_127 z hbz.1 hbz.2
      by_cases hsh : 1 < (f + k * 7) % 8
      · have hsh' : (1 : Int) < ((f : Int) + (k : Int) * 7) % 8 := by omega
        have ho1 : (f + k * 7) / 8 + 1 < m := by have := HM.out; omega
        have hcell1 := own_cell hown ((f + k * 7) / 8 + 1) ho1 (Pl.packRow_getD _ _ _ ho1)
        have hfro1 := hown.frozenAt ((f + k * 7) / 8 + 1)
        have hbx1 := Pl.packAt_lt N ((f + k * 7) / 8 + 1)
        go_wp2
        go_region
        go_wp2
        go_region
        go_wp2
        go_roundw
        case rel =>
          refine ⟨k + 1, by omega, by go_num, set_two hown _ _ _ _ ?_, ((hbel.setCell (Nat.le_refl _) _).setCell (Nat.le_refl _) _).drew.drew⟩
          rw [Pl.or_shl _ _ _ _ hbz.1, Pl.or_shr _ _ _ _ hbz.1, Pl.packRow_step2 N (z.toNat % 128) _ _ m (by omega) hsh (by omega) HN2.out]
          rw [HN.out]
        case measure => simp [intOf]; omega
      · have hsh' : ¬ (1 : Int) < ((f : Int) + (k : Int) * 7) % 8 := by omega
        go_wp2
        go_region
        go_wp2
        go_roundw
        case rel =>
          refine ⟨k + 1, by omega, by go_num, (own_set hown _ _ ?_).drew, (hbel.setCell (Nat.le_refl _) _).drew⟩
          rw [Pl.or_shl _ _ _ _ hbz.1, Pl.packRow_step1 N (z.toNat % 128) _ _ m (by omega) (by omega) HN2.out]
          rw [HN.out]
        case measure => simp [intOf]; omega
    · go_wp2
      go_ret
      have hk' : k = len := by omega
      subst hk'
      exact ⟨rfl, hown, hbel⟩
end Go.Proofs.Qxb6613194aFmt
