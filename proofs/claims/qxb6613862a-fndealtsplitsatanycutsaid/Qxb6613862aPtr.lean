import Derived.Test.Qxb6613862aPlain
import Derived.LaidEql
namespace Go.Proofs.Qxb6613862a
open Go.RowKit

theorem Try.size64 : (Try.prog.info? 64).map (fun i => decide (i.size = 0)) = some false := by kernel_rfl
theorem Try.ptr26 : Try.prog.underlying 26 = some (.pointer 64) := by kernel_rfl

theorem eq26 (d : Nat) (a : Addr) (w : World) : (Op.equalIn (d + 1) 26 (.pointer (some a)) (.pointer (some a))).run Try.prog w = .ok true w := by
  have h := Try.size64
  cases hi : Try.prog.info? 64 with
  | none => rw [hi] at h; cases h
  | some i => simp [Op.equalIn, run_underlying Try.ptr26, sizeOf, typeInfo, hi, run_sameAddr_same]
theorem neq26 (a : Addr) (w : World) : (binOp .neq 26 (.pointer (some a)) (.pointer (some a))).run Try.prog w = .ok (.bool false) w := by
  simp only [binOp]
  simp [Op.equal, Op.maxDepth, eq26 9999 a w]
end Go.Proofs.Qxb6613862a
