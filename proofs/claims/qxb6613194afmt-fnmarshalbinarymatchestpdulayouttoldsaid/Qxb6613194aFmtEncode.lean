import Derived.Test.Qxb6613194aFmtValue
import Derived.Test.Qxb6613194aFmtBits
namespace Go.Proofs.Qxb6613194aFmt
open Go.RowKit Go.Extern.Stop Go.Stop Go.Extern
attribute [local go_sem] call30 fguard fmtB op9_113 ptr68 elem68 isError71

theorem Tryf.info5 : (Tryf.prog.info? 5).map (fun i => (i.zero, i.size, i.bytes)) = some (some (.int .u8 0), 1, 1) := by kernel_rfl

/-- The i-th byte of a string, as a number. -/
def sb (s : ByteArray) (i : Nat) : Int := ((s.data.toList.getD i 0).toNat : Int)
theorem sb_bd (s : ByteArray) (i : Nat) : 0 ≤ sb s i ∧ sb s i ≤ 255 := by
  unfold sb
  have := (s.data.toList.getD i 0).toNat_lt
  omega
theorem sb_eq (s : ByteArray) (i : Nat) (h : i < s.size) : ((s[i].toNat : Nat) : Int) = sb s i := by
  unfold sb
  have h' : i < s.data.size := h
  have e : s.data.toList.getD i 0 = s[i] := by
    rw [List.getD_eq_getElem?_getD, Array.getElem?_toList, Array.getElem?_eq_getElem h']
    rfl
  rw [e]

/-- A cell of a row of bytes that the call owns. -/
theorem own_cell {w : World} {base g n cap : Nat} {xs : List Int} (h : w.ownsRow base 5 1 (.slice (some ⟨g, 0, none⟩) n cap) n (xs.map (Value.int .u8))) (j : Nat) (hj : j < n) {x : Int} (hx : xs.getD j 0 = x) :
    w.cell? ⟨g, j, none⟩ = some (.int .u8 x) := by
  have hl : xs.length = n := by have := h.1; simpa using this
  rw [h.cellAt j (by omega), List.getElem?_map, List.getElem?_eq_getElem (by omega), ← hx, List.getD_eq_getElem?_getD, List.getElem?_eq_getElem (by omega)]
  rfl

theorem own_set {w : World} {base g n cap : Nat} {xs ys : List Int} (h : w.ownsRow base 5 1 (.slice (some ⟨g, 0, none⟩) n cap) n (xs.map (Value.int .u8))) (j : Nat) (x : Int) (hy : xs.set j x = ys) :
    (w.setCell ⟨g, j, none⟩ (.int .u8 x)).ownsRow base 5 1 (.slice (some ⟨g, 0, none⟩) n cap) n (ys.map (Value.int .u8)) := by
  have := (h.stored j (.int .u8 x)).1
  rw [← hy, List.map_set]
  exact this

set_option maxHeartbeats 400000 in
theorem encode_ok (s : ByteArray) (w : World) (hs : s.size ≤ 20) (hd : ∀ i, i < s.size → Pl.isDig (sb s i) = true) :
    Calls Tryf.prog 26 #[.string s] w fun e w' => e = .returned (.tuple #[.slice (some ⟨w.heap.size, 0, none⟩) ((s.size + 1) / 2) ((s.size + 1) / 2), .nilIface]) ∧
      w'.ownsRow w.heap.size 5 1 (.slice (some ⟨w.heap.size, 0, none⟩) ((s.size + 1) / 2) ((s.size + 1) / 2)) ((s.size + 1) / 2) ((Pl.tbRow (sb s) s.size ((s.size + 1) / 2)).map (Value.int .u8)) ∧ Below w.heap.size w w' := by
  obtain ⟨i0, hi, hz0, hz1, hz2⟩ := info_parts Tryf.info5
  have HD : Hid (∀ i, i < s.size → Pl.isDig (sb s i) = true) := hd
  clear hd
  generalize hm : (s.size + 1) / 2 = m
  have HM : Hid ((s.size + 1) / 2 = m) := hm
  clear hm
  go_enter Tryf.func26, Tryf.ntmps26
  go_wp2_with (at_make; refine wpList_make_full _ rfl _ _ 23 rfl w.heap.size 5 i0 (.int .u8 0) 1 Tryf.underlying23 hi hz0 hz1 _ _ _ _ m rfl rfl ?a1 ?a2 ?b2 ?b3 (Nat.le_refl _) ?_)
  case a1 => have := HM.out; omega
  case a2 => have := HM.out; omega
  case b2 => have := HM.out; rw [hz2]; omega
  case b3 => have := HM.out; unfold maxLen; omega
  intro w1 hown1 hgrow1
  go_wp2
  go_loopw [5] (fun i wr => ∃ k : Nat, k ≤ s.size ∧ i = .int .i64 k ∧ wr.ownsRow w.heap.size 5 1 (.slice (some ⟨w.heap.size, 0, none⟩) m m) m ((Pl.tbRow (sb s) k m).map (Value.int .u8)) ∧ Below w.heap.size w wr)
     (fun i _ => s.size - (intOf i).toNat)
  case atStart =>
    refine ⟨0, Nat.zero_le _, rfl, ?_, ?_⟩
    · rw [Pl.tbRow_zero]
      simpa [toList_madeCells_one] using hown1
    · exact (Below.refl _ _).grown hgrow1 (Nat.le_refl _) (fun k h => by cases h)
  case round =>
    obtain ⟨k, hk, rfl, hown, hbel⟩ := hrel
    by_cases hlt : k < s.size
    · have hdk := HD.out k hlt
      have hse := sb_eq s k hlt
      have hb := sb_bd s k
      have hb' : s[k].toNat ≤ 255 := by omega
      have hkm : k / 2 < m := by have := HM.out; omega
      have hcell : wr.cell? ⟨w.heap.size, k / 2, none⟩ = some (.int .u8 (Pl.tbAt (sb s) k (k / 2))) := own_cell hown (k / 2) hkm (Pl.tbRow_getD _ _ _ _ hkm)
      have hfro := hown.frozenAt (k / 2)
      by_cases hpar : k % 2 = 0
      · have hpb : ((k : Int) % 2 == 0) = true := by simp; omega
        go_wp2_with fail
        refine (value_ok _ _ (by omega) (by omega) hdk).mono ?_
        rintro e w' ⟨rfl, rfl⟩
        go_wp2
        go_roundw
        case rel => exact ⟨k + 1, by omega, by go_num, own_set hown _ _ (Pl.tbRow_step (sb s) k m _ (by rw [Pl.tbAt_even _ _ hpar]; exact or_240 _ (Pl.digV_bd _).1 (Pl.digV_bd _).2)), hbel.setCell (Nat.le_refl _) _⟩
        case measure => simp [intOf]; omega
      · have hpb : ((k : Int) % 2 == 0) = false := by simp; omega
        go_wp2_with fail
        refine (value_ok _ _ (by omega) (by omega) hdk).mono ?_
        rintro e w' ⟨rfl, rfl⟩
        go_wp2
        go_roundw
        case rel => exact ⟨k + 1, by omega, by go_num, own_set hown _ _ (Pl.tbRow_step (sb s) k m _ (by rw [Pl.tbAt_odd _ _ (by omega), Pl.tbAt_odd_old _ _ (by omega)]; exact or_odd _ _ (Pl.digV_bd _).1 (Pl.digV_bd _).2 (Pl.digV_bd _).1 (Pl.digV_bd _).2)), hbel.setCell (Nat.le_refl _) _⟩
        case measure => simp [intOf]; omega
    · go_wp2
      go_ret2
      have hk' : k = s.size := by omega
      subst hk'
      exact ⟨rfl, hown, hbel⟩

set_option maxHeartbeats 800000 in
theorem encode_bad (s : ByteArray) (w : World) (hs : s.size ≤ 20) (q : Nat) (hq : q < s.size) (hd : ∀ i, i < q → Pl.isDig (sb s i) = true) (hqd : Pl.isDig (sb s q) = false) :
    Calls Tryf.prog 26 #[.string s] w (BadAt 68 (.slice none 0 0) w) := by
  obtain ⟨i0, hi, hz0, hz1, hz2⟩ := info_parts Tryf.info5
  have HD : Hid (∀ i, i < q → Pl.isDig (sb s i) = true) := hd
  clear hd
  generalize hm : (s.size + 1) / 2 = m
  have HM : Hid ((s.size + 1) / 2 = m) := hm
  clear hm
  go_enter Tryf.func26, Tryf.ntmps26
  go_wp2_with (at_make; refine wpList_make_full _ rfl _ _ 23 rfl w.heap.size 5 i0 (.int .u8 0) 1 Tryf.underlying23 hi hz0 hz1 _ _ _ _ m rfl rfl ?a1 ?a2 ?b2 ?b3 (Nat.le_refl _) ?_)
  case a1 => have := HM.out; omega
  case a2 => have := HM.out; omega
  case b2 => have := HM.out; rw [hz2]; omega
  case b3 => have := HM.out; unfold maxLen; omega
  intro w1 hown1 hgrow1
  go_wp2
  go_loopw [5] (fun i wr => ∃ k : Nat, k ≤ q ∧ i = .int .i64 k ∧ wr.ownsRow w.heap.size 5 1 (.slice (some ⟨w.heap.size, 0, none⟩) m m) m ((Pl.tbRow (sb s) k m).map (Value.int .u8)) ∧ Below w.heap.size w wr)
     (fun i _ => s.size - (intOf i).toNat)
  case atStart =>
    refine ⟨0, Nat.zero_le _, rfl, ?_, ?_⟩
    · rw [Pl.tbRow_zero]
      simpa [toList_madeCells_one] using hown1
    · exact (Below.refl _ _).grown hgrow1 (Nat.le_refl _) (fun k h => by cases h)
  case round =>
    obtain ⟨k, hk, rfl, hown, hbel⟩ := hrel
    by_cases hlt : k < q
    · have hls : k < s.size := by omega
      have hdk := HD.out k hlt
      have hse := sb_eq s k hls
      have hb := sb_bd s k
      have hb' : s[k].toNat ≤ 255 := by omega
      have hkm : k / 2 < m := by have := HM.out; omega
      have hcell : wr.cell? ⟨w.heap.size, k / 2, none⟩ = some (.int .u8 (Pl.tbAt (sb s) k (k / 2))) := own_cell hown (k / 2) hkm (Pl.tbRow_getD _ _ _ _ hkm)
      have hfro := hown.frozenAt (k / 2)
      by_cases hpar : k % 2 = 0
      · have hpb : ((k : Int) % 2 == 0) = true := by simp; omega
        go_wp2_with fail
        refine (value_ok _ _ (by omega) (by omega) hdk).mono ?_
        rintro e w' ⟨rfl, rfl⟩
        go_wp2
        go_roundw
        case rel => exact ⟨k + 1, by omega, by go_num, own_set hown _ _ (Pl.tbRow_step (sb s) k m _ (by rw [Pl.tbAt_even _ _ hpar]; exact or_240 _ (Pl.digV_bd _).1 (Pl.digV_bd _).2)), hbel.setCell (Nat.le_refl _) _⟩
        case measure => simp [intOf]; omega
      · have hpb : ((k : Int) % 2 == 0) = false := by simp; omega
        go_wp2_with fail
        refine (value_ok _ _ (by omega) (by omega) hdk).mono ?_
        rintro e w' ⟨rfl, rfl⟩
        go_wp2
        go_roundw
        case rel => exact ⟨k + 1, by omega, by go_num, own_set hown _ _ (Pl.tbRow_step (sb s) k m _ (by rw [Pl.tbAt_odd _ _ (by omega), Pl.tbAt_odd_old _ _ (by omega)]; exact or_odd _ _ (Pl.digV_bd _).1 (Pl.digV_bd _).2 (Pl.digV_bd _).1 (Pl.digV_bd _).2)), hbel.setCell (Nat.le_refl _) _⟩
        case measure => simp [intOf]; omega
    · obtain rfl : k = q := by omega
      have hse := sb_eq s k hq
      have hb := sb_bd s k
      have hb' : s[k].toNat ≤ 255 := by omega
      go_wp2_with fail
      refine (value_bad _ _ (by omega) (by omega) hqd).mono ?_
      rintro e w2 ⟨a, t, rfl, hct, hbe⟩
      have hlt2 : a.block < w2.heap.size := World.block_lt_of_cell? _ _ hct
      have hop := fun (o : Obj) => opPlain71 "fmt.errorf" a t (w2.alloc o) (cell_later ((Below.refl _ w2).alloc (Nat.le_refl _) o) hct)
      have hsz : w.heap.size ≤ w2.heap.size := Nat.le_trans hbel.size hbe.size
      have HB : Hid (Below w.heap.size w w2) := hbel.trans (hbe.mono hbel.size)
      clear hbel hbe hown
      go_wp2
      go_ret2
      exact ⟨_, _, rfl, by go_simp; rfl, ((HB.out.alloc hsz _).alloc (by simp; omega) _).drew⟩
end Go.Proofs.Qxb6613194aFmt
