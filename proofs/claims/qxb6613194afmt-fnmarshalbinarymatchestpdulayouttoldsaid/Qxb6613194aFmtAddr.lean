import Derived.Test.Qxb6613194aFmtEncode
namespace Go.Proofs.Qxb6613194aFmt
open Go.RowKit Go.Extern.Stop Go.Stop Go.Extern
attribute [local go_sem] call30 fguard fmtC fmtD fmtE fmtF op5_100 op3_100 op9_113 ptr71 elem71 ptr68 elem68 isError68

theorem hide {p : Prop} (h : p) : Hid p := h

/-- What is owned stays owned while nothing that was there turns. -/
theorem own_below {w w' : World} {base : Nat} {e : TypeId} {size : Nat} {v : Value} {n : Nat} {xs : List Value} (h : w.ownsRow base e size v n xs) (hb : Below w.heap.size w w') : w'.ownsRow base e size v n xs :=
  h.kept (row := none) ⟨hb.os, hb.tape, hb.output, hb.size, fun k hk _ => hb.block k hk⟩ (by cases v.ownBlock <;> simp)

/-- A new error beside the result r. -/
def Bad (r : Value) (B : Nat) (w : World) (e : Ending) (w' : World) : Prop :=
  ∃ t a, e = .returned (.tuple #[r, .iface t (.pointer (some a))]) ∧ Below B w w'

set_option maxHeartbeats 800000 in
theorem addr_wide (ton npi : Int) (s nm : ByteArray) (b : Value) (w : World) (h0 : 0 ≤ ton) (h1 : ton ≤ 255) (g0 : 0 ≤ npi) (g1 : npi ≤ 255) (h : 7 < ton ∨ 15 < npi) :
    Calls Tryf.prog 19 #[.agg #[.int .u8 ton, .int .u8 npi, .string s, .string nm], b] w (Bad (.slice none 0 0) w.heap.size w) := by
  by_cases h7 : 7 < ton
  · clear h
    go_enter Tryf.func19, Tryf.ntmps19
    go_wp2
    go_ret2
    exact ⟨_, _, rfl, ((((Below.refl _ _).alloc (Nat.le_refl _) _).alloc (by simp) _).alloc (by simp; omega) _).drew⟩
  · have h15 : 15 < npi := by omega
    clear h
    go_enter Tryf.func19, Tryf.ntmps19
    go_wp2
    go_ret2
    exact ⟨_, _, rfl, ((((Below.refl _ _).alloc (Nat.le_refl _) _).alloc (by simp) _).alloc (by simp; omega) _).drew⟩

set_option maxHeartbeats 800000 in
theorem addr_alnum (npi : Int) (s nm : ByteArray) (b : Value) (w : World) (g0 : 0 ≤ npi) (g1 : npi ≤ 15) :
    Calls Tryf.prog 19 #[.agg #[.int .u8 5, .int .u8 npi, .string s, .string nm], b] w (Bad (.slice none 0 0) w.heap.size w) := by
  go_enter Tryf.func19, Tryf.ntmps19
  go_wp2
  go_ret2
  exact ⟨_, _, rfl, ((((Below.refl _ _).alloc (Nat.le_refl _) _).alloc (by simp) _).alloc (by simp; omega) _).drew⟩

set_option maxHeartbeats 800000 in
theorem addr_long (ton npi : Int) (s nm : ByteArray) (b : Value) (w : World) (h0 : 0 ≤ ton) (h1 : ton ≤ 7) (h5 : (ton == 5) = false) (g0 : 0 ≤ npi) (g1 : npi ≤ 15) (hs : 20 < s.size) (hs2 : s.size ≤ 2000000) :
    Calls Tryf.prog 19 #[.agg #[.int .u8 ton, .int .u8 npi, .string s, .string nm], b] w (Bad (.slice none 0 0) w.heap.size w) := by
  go_enter Tryf.func19, Tryf.ntmps19
  go_wp2
  go_ret2
  exact ⟨_, _, rfl, ((((Below.refl _ _).alloc (Nat.le_refl _) _).alloc (by simp) _).alloc (by simp; omega) _).drew⟩

set_option maxHeartbeats 800000 in
theorem addr_digit (ton npi : Int) (s nm : ByteArray) (b : Value) (w : World) (h0 : 0 ≤ ton) (h1 : ton ≤ 7) (h5 : (ton == 5) = false) (g0 : 0 ≤ npi) (g1 : npi ≤ 15) (hs : s.size ≤ 20)
    (q : Nat) (hq : q < s.size) (hd : ∀ i, i < q → Pl.isDig (sb s i) = true) (hqd : Pl.isDig (sb s q) = false) :
    Calls Tryf.prog 19 #[.agg #[.int .u8 ton, .int .u8 npi, .string s, .string nm], b] w (Bad (.slice none 0 0) w.heap.size w) := by
  have HE := fun w => encode_bad s w hs q hq hd hqd
  clear hd hqd
  have HE' : Hid (∀ w, Calls Tryf.prog 26 #[.string s] w (BadAt 68 (.slice none 0 0) w)) := HE
  clear HE
  go_enter Tryf.func19, Tryf.ntmps19
  go_wp2_with fail
  refine (HE'.out _).mono ?_
  rintro e w2 ⟨a, t, rfl, hct, hbe⟩
  have hlt2 : a.block < w2.heap.size := World.block_lt_of_cell? _ _ hct
  have hop := fun (o : Obj) => opPlain68 "fmt.errorf" a t (w2.alloc o) (cell_later ((Below.refl _ w2).alloc (Nat.le_refl _) o) hct)
  have hsz : w.heap.size < w2.heap.size := by have := hbe.size; simp at this; omega
  have HB : Hid (Below w.heap.size w w2) := ((Below.refl _ _).alloc (Nat.le_refl _) _).trans (hbe.mono (by simp))
  clear hbe
  go_wp2
  go_ret2
  exact ⟨_, _, rfl, ((HB.out.alloc (by omega) _).alloc (by simp; omega) _).drew⟩

/-- A row of bytes of the call's own, and no error. -/
def Good (base n : Nat) (xs : List Int) (w : World) (e : Ending) (w' : World) : Prop :=
  ∃ v, e = .returned (.tuple #[v, .nilIface]) ∧ w'.ownsRow base 5 1 v n (xs.map (Value.int .u8)) ∧ Below base w w'

end Go.Proofs.Qxb6613194aFmt
