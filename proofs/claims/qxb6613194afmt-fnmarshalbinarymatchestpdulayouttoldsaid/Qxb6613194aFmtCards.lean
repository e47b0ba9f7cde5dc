/-
  DERIVED. GIVEN WITH THE SEED: THE CARDS: each row of Qxb6613194aFmtRows.lean that lists a variable, with what it lists TIED to the program's text (the seventh form; the later family's looks); each row that meets fmt, with fmt's text TOLD by the authors' own Lean function (tested against real Go, not proved from fmt's source: count such statements apart). THE CARD IS WHAT COUNTS. Prove the row's statement (the work); the ties are given (Qxb6613194aFmtTie.lean); close each card by the builder's one call (the guide's Derived/Test/ToyasCard.lean, 'card_holds'). Laid BY PROGRAM, IN A SANDBOX (cutbox-door.mjs). By AI agents, Wed Nov 11 2026. No macro, syntax, notation, axiom, sorry.
-/
import Derived.Test.Qxb6613194aFmtRows
import GoSem.ClaimSeven
namespace Go.Proofs.Qxb6613194aFmt
namespace Rows

/-- THE TOLD CARD OF 'zzlaws_pkg_sms_b1.FnMarshalBinaryMatchesTPDULayout'. -/
def fnMarshalBinaryMatchesTPDULayoutCard : Claim7 := { stood := { row := fnMarshalBinaryMatchesTPDULayoutRow, standIns := [], harness := (true, "e2fe37d2f12bed4cb510c05867bafe587a22f387d60af9208098937324de9e15"), looks := false }, told := true, goes := false }
def FnMarshalBinaryMatchesTPDULayoutToldSaid : Prop := Claim7.holds Tryf.pinned (.plain (OpenSpec.ofChange fnMarshalBinaryMatchesTPDULayoutSpec)) fnMarshalBinaryMatchesTPDULayoutCard
/-- ITS FALSE NEIGHBOUR. Refute it at one input. -/
def FnMarshalBinaryMatchesTPDULayoutToldWrongFalsely : Prop := Claim7.holds Tryf.pinned (.plain (OpenSpec.ofChange fnMarshalBinaryMatchesTPDULayoutWrong)) fnMarshalBinaryMatchesTPDULayoutCard

/-- THE TOLD CARD OF 'zzlaws_pkg_sms_b1.FnMarshalBinaryValidityPeriodInsertsOneOctet'. -/
def fnMarshalBinaryValidityPeriodInsertsOneOctetCard : Claim7 := { stood := { row := fnMarshalBinaryValidityPeriodInsertsOneOctetRow, standIns := [], harness := (true, "e2fe37d2f12bed4cb510c05867bafe587a22f387d60af9208098937324de9e15"), looks := false }, told := true, goes := false }
def FnMarshalBinaryValidityPeriodInsertsOneOctetToldSaid : Prop := Claim7.holds Tryf.pinned (.plain (OpenSpec.ofChange fnMarshalBinaryValidityPeriodInsertsOneOctetSpec)) fnMarshalBinaryValidityPeriodInsertsOneOctetCard
/-- ITS FALSE NEIGHBOUR. Refute it at one input. -/
def FnMarshalBinaryValidityPeriodInsertsOneOctetToldWrongFalsely : Prop := Claim7.holds Tryf.pinned (.plain (OpenSpec.ofChange fnMarshalBinaryValidityPeriodInsertsOneOctetWrong)) fnMarshalBinaryValidityPeriodInsertsOneOctetCard

/-- THE TOLD CARD OF 'zzlaws_pkg_sms_b1.FnDataCodingSchemeIsTheOctetMarshalBinaryWrites'. -/
def fnDataCodingSchemeIsTheOctetMarshalBinaryWritesCard : Claim7 := { stood := { row := fnDataCodingSchemeIsTheOctetMarshalBinaryWritesRow, standIns := [], harness := (true, "e2fe37d2f12bed4cb510c05867bafe587a22f387d60af9208098937324de9e15"), looks := false }, told := true, goes := false }
def FnDataCodingSchemeIsTheOctetMarshalBinaryWritesToldSaid : Prop := Claim7.holds Tryf.pinned (.plain (OpenSpec.ofChange fnDataCodingSchemeIsTheOctetMarshalBinaryWritesSpec)) fnDataCodingSchemeIsTheOctetMarshalBinaryWritesCard
/-- ITS FALSE NEIGHBOUR. Refute it at one input. -/
def FnDataCodingSchemeIsTheOctetMarshalBinaryWritesToldWrongFalsely : Prop := Claim7.holds Tryf.pinned (.plain (OpenSpec.ofChange fnDataCodingSchemeIsTheOctetMarshalBinaryWritesWrong)) fnDataCodingSchemeIsTheOctetMarshalBinaryWritesCard
end Rows
end Go.Proofs.Qxb6613194aFmt
