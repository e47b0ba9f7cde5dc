/-
  No cell of these rows narrows 'for every input' (looked for: loops, veiled, ifaces, maps, wideKeys, modest, calm, conditions, laid).
  DERIVED. THE GIVEN ROWS OF THIS SEAT. 1 by the template 'for every input the law returns true; each argument reads behind the call as it read before'; 0 by the template 'total and deterministic' (their statements: Qxb6613213aFmtTotals.lean).
  GIVEN WITH THE SEED: the statements are not yours to turn. If you find one false, say at which input.
  Laid BY PROGRAM, IN A SANDBOX (cutbox-rows.mjs): the forced cells as the released guide's own fill.sh prints them over the translation 64ca37d53a2e727a… (all of the seat's roots in one cut). By AI agents, Wed Nov 11 2026. No macro, syntax, notation, axiom, sorry.
-/
import Derived.Test.Qxb6613213aFmtChecked
import GoSem.Claim
import GoSem.ClaimJoined
import GoSem.ClaimMapViews
import Derived.JoinedTies
import Derived.KernelRfl
namespace Go.Proofs.Qxb6613213aFmt
/- THE CELL 'sum', in the pinned program and in every row, IS THE sha256 OF THE DUMP (.gsa) THAT Qxb6613213aFmtProg.lean LOADS. Nothing in Lean hashes anything: it is a label: what it is worth is what the hold of that sum in a sandbox is worth. -/
noncomputable def Tryf.pinned : Pinned := { name := "qxb6613213afmt", sum := "64ca37d53a2e727ab19c7995643c9af74abd117a34acabc476cb26182d941422", checked := Tryf.checked }
namespace Rows
def none {H : Type} : Left H := { results := [], args := [] }

/-- 'zzlaws_root_b1.FnCountIgnoresBytesThatFollow': WHATEVER THE INPUT: true; the input reads as it did. -/
def fnCountIgnoresBytesThatFollowSpec : ChangeSpec := { name := "fnCountIgnoresBytesThatFollow", fn := fun _ => fun
  | [d1, d2] => { results := [.lit (.bool true)], args := [d1, d2] }
  | _ => none }
def fnCountIgnoresBytesThatFollowRow : OpenClaim := { program := "qxb6613213afmt", sum := "64ca37d53a2e727ab19c7995643c9af74abd117a34acabc476cb26182d941422", func := "example.com/sluicegate/sluicegate/zzlaws_root_b1.FnCountIgnoresBytesThatFollow", spec := "fnCountIgnoresBytesThatFollow", stops := ["fmt.errorf"], inPlace := ["fmt.errorf"], apart := false }
/-- NO THEOREM (fmt's text is open here; it may be false): for the released tool's asking of the row's closed facts alone. THE STATEMENT IS 'FnCountIgnoresBytesThatFollowToldSaid' (Qxb6613213aFmtCards.lean). -/
def FnCountIgnoresBytesThatFollowFormAsk : Prop := fnCountIgnoresBytesThatFollowRow.holds Tryf.pinned (OpenSpec.ofChange fnCountIgnoresBytesThatFollowSpec)

/-- ITS FALSE NEIGHBOUR: 'it returns false'. Refute it at one input. -/
def fnCountIgnoresBytesThatFollowWrong : ChangeSpec := { name := "fnCountIgnoresBytesThatFollow", fn := fun _ => fun
  | [d1, d2] => { results := [.lit (.bool false)], args := [d1, d2] }
  | _ => none }
def FnCountIgnoresBytesThatFollowWrongFormAsk : Prop := fnCountIgnoresBytesThatFollowRow.holds Tryf.pinned (OpenSpec.ofChange fnCountIgnoresBytesThatFollowWrong)

end Rows
end Go.Proofs.Qxb6613213aFmt
