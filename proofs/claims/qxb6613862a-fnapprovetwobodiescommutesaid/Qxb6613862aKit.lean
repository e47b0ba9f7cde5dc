import Derived.Test.Qxb6613862aRows
import Derived.WalkKit
import Derived.WalkSpells
import Derived.WalkLawsBesides
import Derived.Maps.OwnSet
namespace Go.Proofs.Qxb6613862a
open Go.RowKit

theorem hide {p : Prop} (h : p) : Hid p := h
theorem Try.info21 : (Try.prog.info? 21).map (fun i => (i.zero, i.size, i.bytes)) = some (some (.int .i32 0), 1, 4) := by kernel_rfl
theorem Try.zero66 (w : World) : (zeroValue 66).run Try.prog w = .ok (.pointer none) w := by kernel_rfl
theorem keyed9 : Maps.Keyed Try.prog 9 := Maps.string_keyed Try.underlying9
theorem key9 (s : ByteArray) (h : s.size ≤ maxLen) : keyOf Try.prog 9 (.string s) = some (.string s.data.toList) := by
  simp [keyOf, mapKey, Try.underlying9, h]

/-- A pointer as a datum. -/
def ptrR (v : Value) : Option (DataW Unit × List MemPlace) :=
  match v with
  | .pointer none => some (.nil, [])
  | .pointer (some ⟨b, 0, none⟩) => some (.lit (.int .i64 (b : Int)), [])
  | _ => none

theorem ptrR_none : ptrR (.pointer none) = some (.nil, []) := rfl
theorem ptrR_some (b : Nat) : ptrR (.pointer (some ⟨b, 0, none⟩)) = some (.lit (.int .i64 (b : Int)), []) := rfl
theorem ptrR_nil_inv {v : Value} {ps : List MemPlace} (h : ptrR v = some (.nil, ps)) : v = .pointer none := by
  unfold ptrR at h
  split at h
  · rfl
  · simp at h
  · cases h
theorem ptrR_inv {v : Value} {b : Nat} {ps : List MemPlace} (h : ptrR v = some (.lit (.int .i64 (b : Int)), ps)) : v = .pointer (some ⟨b, 0, none⟩) := by
  unfold ptrR at h
  split at h
  · simp at h
  · rename_i b'
    simp only [Option.some.injEq, Prod.mk.injEq, DataW.lit.injEq, Lit.int.injEq, true_and] at h
    have : b' = b := by omega
    rw [this]
  · cases h

/-- A pool, with all that it owns among the blocks of I. -/
structure Pool (w : World) (I : Nat → Prop) (p n : Nat) (S : List UInt8 → List Int) (Wn : List UInt8 → Nat) (cnt bw bm : Nat) (D : DataW Unit) (pb : List UInt8 → Nat) (vb : List UInt8 → Value) : Prop where
  ip : I p
  im : I bm
  ph : w.heap[p]? = some (.cells #[.map (some bw), .map (some bm)] 58 (0, 0))
  map : w.ownsMap Try.prog 9 ptrR bm n D
  size : Maps.size D = cnt
  has : ∀ s, Maps.has D (.string s) = !(S s).isEmpty
  at_ : ∀ s, S s ≠ [] → D.atKey (.string s) .nil = .lit (.int .i64 (pb s : Nat))
  pbh : ∀ s, S s ≠ [] → w.heap[pb s]? = some (.cells #[vb s, .pointer (some ⟨Wn s, 0, none⟩)] 69 (0, 0)) ∧ I (pb s)
  row : ∀ s, S s ≠ [] → w.ownsRow 0 21 1 (vb s) (S s).length ((S s).map (Value.int .i32)) ∧ ∀ g, (vb s).ownBlock = some g → I g
  dis : ∀ s s', S s ≠ [] → S s' ≠ [] → s ≠ s' → pb s ≠ pb s' ∧ (vb s).ownBlock ≠ (vb s').ownBlock

end Go.Proofs.Qxb6613862a
