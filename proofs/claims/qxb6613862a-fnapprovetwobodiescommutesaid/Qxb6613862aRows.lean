/-
  No cell of these rows narrows 'for every input' (looked for: loops, veiled, ifaces, maps, wideKeys, modest, calm, conditions, laid).
  DERIVED. THE GIVEN ROWS OF THIS SEAT. 4 by the template 'for every input the law returns true; each argument reads behind the call as it read before'; 0 by the template 'total and deterministic' (their statements: Qxb6613862aTotals.lean).
  GIVEN WITH THE SEED: the statements are not yours to turn. If you find one false, say at which input.
  Laid BY PROGRAM, IN A SANDBOX (cutbox-rows.mjs): the forced cells as the released guide's own fill.sh prints them over the translation 3b4ba9c6cb4abc1f… (all of the seat's roots in one cut). By AI agents, Wed Nov 11 2026. No macro, syntax, notation, axiom, sorry.
-/
import Derived.Test.Qxb6613862aChecked
import GoSem.Claim
import GoSem.ClaimJoined
import GoSem.ClaimMapViews
import Derived.JoinedTies
import Derived.KernelRfl
namespace Go.Proofs.Qxb6613862a
/- THE CELL 'sum', in the pinned program and in every row, IS THE sha256 OF THE DUMP (.gsa) THAT Qxb6613862aProg.lean LOADS. Nothing in Lean hashes anything: it is a label: what it is worth is what the hold of that sum in a sandbox is worth. -/
noncomputable def Try.pinned : Pinned := { name := "qxb6613862a", sum := "3b4ba9c6cb4abc1f4962bccabc2bd8b438529240c71ef312d7936879649370d0", checked := Try.checked }
namespace Rows
def none {H : Type} : Left H := { results := [], args := [] }

/-- 'zzlaws_pkg_ledger_b1.FnDealtKeepsEachPartysPlacesInOrder': WHATEVER THE INPUT: true; the input reads as it did. -/
def fnDealtKeepsEachPartysPlacesInOrderSpec : ChangeSpec := { name := "fnDealtKeepsEachPartysPlacesInOrder", fn := fun _ => fun
  | [d] => { results := [.lit (.bool true)], args := [d] }
  | _ => none }
def fnDealtKeepsEachPartysPlacesInOrderRow : OpenClaim := { program := "qxb6613862a", sum := "3b4ba9c6cb4abc1f4962bccabc2bd8b438529240c71ef312d7936879649370d0", func := "example.com/armslength/armslength/zzlaws_pkg_ledger_b1.FnDealtKeepsEachPartysPlacesInOrder", spec := "fnDealtKeepsEachPartysPlacesInOrder", apart := false }
def FnDealtKeepsEachPartysPlacesInOrderSaid : Prop := fnDealtKeepsEachPartysPlacesInOrderRow.holds Try.pinned (OpenSpec.ofChange fnDealtKeepsEachPartysPlacesInOrderSpec)

/-- ITS FALSE NEIGHBOUR: 'it returns false'. Refute it at one input. -/
def fnDealtKeepsEachPartysPlacesInOrderWrong : ChangeSpec := { name := "fnDealtKeepsEachPartysPlacesInOrder", fn := fun _ => fun
  | [d] => { results := [.lit (.bool false)], args := [d] }
  | _ => none }
def FnDealtKeepsEachPartysPlacesInOrderWrongFalsely : Prop := fnDealtKeepsEachPartysPlacesInOrderRow.holds Try.pinned (OpenSpec.ofChange fnDealtKeepsEachPartysPlacesInOrderWrong)

/-- 'zzlaws_pkg_ledger_b1.FnDealtSplitsAtAnyCut': WHATEVER THE INPUT: true; the input reads as it did. -/
def fnDealtSplitsAtAnyCutSpec : ChangeSpec := { name := "fnDealtSplitsAtAnyCut", fn := fun _ => fun
  | [d1, d2] => { results := [.lit (.bool true)], args := [d1, d2] }
  | _ => none }
def fnDealtSplitsAtAnyCutRow : OpenClaim := { program := "qxb6613862a", sum := "3b4ba9c6cb4abc1f4962bccabc2bd8b438529240c71ef312d7936879649370d0", func := "example.com/armslength/armslength/zzlaws_pkg_ledger_b1.FnDealtSplitsAtAnyCut", spec := "fnDealtSplitsAtAnyCut", apart := false }
def FnDealtSplitsAtAnyCutSaid : Prop := fnDealtSplitsAtAnyCutRow.holds Try.pinned (OpenSpec.ofChange fnDealtSplitsAtAnyCutSpec)

/-- ITS FALSE NEIGHBOUR: 'it returns false'. Refute it at one input. -/
def fnDealtSplitsAtAnyCutWrong : ChangeSpec := { name := "fnDealtSplitsAtAnyCut", fn := fun _ => fun
  | [d1, d2] => { results := [.lit (.bool false)], args := [d1, d2] }
  | _ => none }
def FnDealtSplitsAtAnyCutWrongFalsely : Prop := fnDealtSplitsAtAnyCutRow.holds Try.pinned (OpenSpec.ofChange fnDealtSplitsAtAnyCutWrong)

/-- 'zzlaws_pkg_ledger_b1.FnApproveSplitsAtAnyCut': WHATEVER THE INPUT: true; the input reads as it did. -/
def fnApproveSplitsAtAnyCutSpec : ChangeSpec := { name := "fnApproveSplitsAtAnyCut", fn := fun _ => fun
  | [d1, d2, d3, d4, d5, d6] => { results := [.lit (.bool true)], args := [d1, d2, d3, d4, d5, d6] }
  | _ => none }
def fnApproveSplitsAtAnyCutRow : OpenClaim := { program := "qxb6613862a", sum := "3b4ba9c6cb4abc1f4962bccabc2bd8b438529240c71ef312d7936879649370d0", func := "example.com/armslength/armslength/zzlaws_pkg_ledger_b1.FnApproveSplitsAtAnyCut", spec := "fnApproveSplitsAtAnyCut", apart := false }
def FnApproveSplitsAtAnyCutSaid : Prop := fnApproveSplitsAtAnyCutRow.holds Try.pinned (OpenSpec.ofChange fnApproveSplitsAtAnyCutSpec)

/-- ITS FALSE NEIGHBOUR: 'it returns false'. Refute it at one input. -/
def fnApproveSplitsAtAnyCutWrong : ChangeSpec := { name := "fnApproveSplitsAtAnyCut", fn := fun _ => fun
  | [d1, d2, d3, d4, d5, d6] => { results := [.lit (.bool false)], args := [d1, d2, d3, d4, d5, d6] }
  | _ => none }
def FnApproveSplitsAtAnyCutWrongFalsely : Prop := fnApproveSplitsAtAnyCutRow.holds Try.pinned (OpenSpec.ofChange fnApproveSplitsAtAnyCutWrong)

/-- 'zzlaws_pkg_ledger_b1.FnApproveTwoBodiesCommute': WHATEVER THE INPUT: true; the input reads as it did. -/
def fnApproveTwoBodiesCommuteSpec : ChangeSpec := { name := "fnApproveTwoBodiesCommute", fn := fun _ => fun
  | [d1, d2, d3, d4, d5, d6, d7, d8] => { results := [.lit (.bool true)], args := [d1, d2, d3, d4, d5, d6, d7, d8] }
  | _ => none }
def fnApproveTwoBodiesCommuteRow : OpenClaim := { program := "qxb6613862a", sum := "3b4ba9c6cb4abc1f4962bccabc2bd8b438529240c71ef312d7936879649370d0", func := "example.com/armslength/armslength/zzlaws_pkg_ledger_b1.FnApproveTwoBodiesCommute", spec := "fnApproveTwoBodiesCommute", apart := false }
def FnApproveTwoBodiesCommuteSaid : Prop := fnApproveTwoBodiesCommuteRow.holds Try.pinned (OpenSpec.ofChange fnApproveTwoBodiesCommuteSpec)

/-- ITS FALSE NEIGHBOUR: 'it returns false'. Refute it at one input. -/
def fnApproveTwoBodiesCommuteWrong : ChangeSpec := { name := "fnApproveTwoBodiesCommute", fn := fun _ => fun
  | [d1, d2, d3, d4, d5, d6, d7, d8] => { results := [.lit (.bool false)], args := [d1, d2, d3, d4, d5, d6, d7, d8] }
  | _ => none }
def FnApproveTwoBodiesCommuteWrongFalsely : Prop := fnApproveTwoBodiesCommuteRow.holds Try.pinned (OpenSpec.ofChange fnApproveTwoBodiesCommuteWrong)

end Rows
end Go.Proofs.Qxb6613862a
