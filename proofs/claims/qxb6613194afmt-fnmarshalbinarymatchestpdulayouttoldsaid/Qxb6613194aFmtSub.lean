import Derived.Test.Qxb6613194aFmtToH
namespace Go.Proofs.Qxb6613194aFmt
open Go.RowKit

/-- A new Submit. -/
def subObj (rd srr : Bool) (mr ton npi : Int) (s nm : ByteArray) (pid vp al : Int) (ho : Option Addr) (hn hcap : Nat) (ao : Option Addr) (len cap : Nat) : Obj :=
  .cells #[.bool rd, .bool srr, .int .u8 mr, .int .u8 ton, .int .u8 npi, .string s, .string nm, .int .u8 pid, .int .i64 vp, .int .u8 al, .slice ho hn hcap, .slice ao len cap] 36

theorem Sub.up {w : World} {B B' p : Nat} {rd srr : Bool} {mr ton npi : Int} {s nm : ByteArray} {pid vp al : Int} {ho : Option Addr} {hb hoff hn hcap : Nat} {es : Nat → El} {ao : Option Addr} {b off len cap : Nat} {zs : List Int}
    (h : Sub w B p rd srr mr ton npi s nm pid vp al ho hb hoff hn hcap es ao b off len cap zs) (hB : B ≤ B') : Sub w B' p rd srr mr ton npi s nm pid vp al ho hb hoff hn hcap es ao b off len cap zs :=
  ⟨h.c0, h.c1, h.c2, h.c3, h.c4, h.c5, h.c6, h.c7, h.c8, h.ud.up hB, h.t0, h.t1, h.n0, h.n1, h.sz, h.vmax, h.vmin⟩

theorem sub_at {W w : World} {p : Nat} {rd srr : Bool} {mr ton npi : Int} {s nm : ByteArray} {pid vp al : Int} {ho : Option Addr} {hb hoff hn hcap : Nat} {es : Nat → El} {ao : Option Addr} {b off len cap : Nat} {zs : List Int}
    (hp : p = w.heap.size) (hbl : Below (w.heap.size + 1) (w.alloc (subObj rd srr mr ton npi s nm pid vp al ho hn hcap ao len cap)) W)
    (hd : Hd w w.heap.size ho hb hoff hn es) (hr : Rd w w.heap.size ao b off len zs) (hz2 : ao = none → len = 0 ∧ cap = 0)
    (t0 : 0 ≤ ton) (t1 : ton ≤ 255) (n0 : 0 ≤ npi) (n1 : npi ≤ 255) (a0 : 0 ≤ al) (a1 : al ≤ 255) (v0 : -9223372036854775808 ≤ vp) (v1 : vp ≤ 9223372036854775807)
    (hs : s.size ≤ 2000000) (hm : (Pl.hdrTo (ids es) (dats es) hn).length ≤ 2000000) (hnm : hn ≤ 2000000) (hlm : len ≤ 2000000) :
    Sub W W.heap.size p rd srr mr ton npi s nm pid vp al ho hb hoff hn hcap es ao b off len cap zs := by
  subst hp
  have hc : ∀ (i : Nat) (v : Value), (#[.bool rd, .bool srr, .int .u8 mr, .int .u8 ton, .int .u8 npi, .string s, .string nm, .int .u8 pid, .int .i64 vp, .int .u8 al, .slice ho hn hcap, .slice ao len cap] : Array Value)[i]? = some v → W.cell? ⟨w.heap.size, i, none⟩ = some v := by
    intro i v hv
    rw [hbl.cell (by show w.heap.size < _; omega)]
    unfold subObj
    rw [World.cell?_alloc_at _ _ _ _ rfl]
    exact hv
  have hsz := hbl.size
  simp only [World.size_alloc] at hsz
  have hbw : Below w.heap.size w W := ((Below.refl _ _).alloc (Nat.le_refl _) _).trans (hbl.mono (by omega))
  exact ⟨hc 0 _ rfl, hc 1 _ rfl, hc 2 _ rfl, hc 3 _ rfl, hc 4 _ rfl, hc 5 _ rfl, hc 6 _ rfl, hc 7 _ rfl, hc 8 _ rfl,
    ⟨by omega, hc 9 _ rfl, a0, a1, hc 10 _ rfl, hc 11 _ rfl, (hd.below hbw).up (by omega), (hr.below hbw).up (by omega), hm, hnm, hlm, hz2⟩, t0, t1, n0, n1, hs, v1, v0⟩

end Go.Proofs.Qxb6613194aFmt
