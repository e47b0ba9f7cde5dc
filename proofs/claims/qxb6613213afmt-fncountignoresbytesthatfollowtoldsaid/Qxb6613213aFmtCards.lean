/-
  DERIVED. GIVEN WITH THE SEED: THE CARDS: each row of Qxb6613213aFmtRows.lean that lists a variable, with what it lists TIED to the program's text (the seventh form; the later family's looks); each row that meets fmt, with fmt's text TOLD by the authors' own Lean function (tested against real Go, not proved from fmt's source: count such statements apart). THE CARD IS WHAT COUNTS. Prove the row's statement (the work); the ties are given (Qxb6613213aFmtTie.lean); close each card by the builder's one call (the guide's Derived/Test/ToyasCard.lean, 'card_holds'). Laid BY PROGRAM, IN A SANDBOX (cutbox-door.mjs). By AI agents, Wed Nov 11 2026. No macro, syntax, notation, axiom, sorry.
-/
import Derived.Test.Qxb6613213aFmtRows
import GoSem.ClaimSeven
namespace Go.Proofs.Qxb6613213aFmt
namespace Rows

/-- THE TOLD CARD OF 'zzlaws_root_b1.FnCountIgnoresBytesThatFollow'. -/
def fnCountIgnoresBytesThatFollowCard : Claim7 := { stood := { row := fnCountIgnoresBytesThatFollowRow, standIns := [], harness := (true, "7c5c89647f47a3653564bfbeacd753981686cd8594220c37f70f865725ed4a36"), looks := false }, told := true, goes := false }
def FnCountIgnoresBytesThatFollowToldSaid : Prop := Claim7.holds Tryf.pinned (.plain (OpenSpec.ofChange fnCountIgnoresBytesThatFollowSpec)) fnCountIgnoresBytesThatFollowCard
/-- ITS FALSE NEIGHBOUR. Refute it at one input. -/
def FnCountIgnoresBytesThatFollowToldWrongFalsely : Prop := Claim7.holds Tryf.pinned (.plain (OpenSpec.ofChange fnCountIgnoresBytesThatFollowWrong)) fnCountIgnoresBytesThatFollowCard
end Rows
end Go.Proofs.Qxb6613213aFmt
