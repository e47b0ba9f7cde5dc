/-
  No cell of these rows narrows 'for every input' (looked for: loops, veiled, ifaces, maps, wideKeys, modest, calm, conditions, laid).
  DERIVED. THE GIVEN ROWS OF THIS SEAT. 3 by the template 'for every input the law returns true; each argument reads behind the call as it read before'; 0 by the template 'total and deterministic' (their statements: Qxb6613194aFmtTotals.lean).
  GIVEN WITH THE SEED: the statements are not yours to turn. If you find one false, say at which input.
  Laid BY PROGRAM, IN A SANDBOX (cutbox-rows.mjs): the forced cells as the released guide's own fill.sh prints them over the translation e05362f545e83e36… (all of the seat's roots in one cut). By AI agents, Wed Nov 11 2026. No macro, syntax, notation, axiom, sorry.
-/
import Derived.Test.Qxb6613194aFmtChecked
import GoSem.Claim
import GoSem.ClaimJoined
import GoSem.ClaimMapViews
import Derived.JoinedTies
import Derived.KernelRfl
namespace Go.Proofs.Qxb6613194aFmt
/- THE CELL 'sum', in the pinned program and in every row, IS THE sha256 OF THE DUMP (.gsa) THAT Qxb6613194aFmtProg.lean LOADS. Nothing in Lean hashes anything: it is a label: what it is worth is what the hold of that sum in a sandbox is worth. -/
noncomputable def Tryf.pinned : Pinned := { name := "qxb6613194afmt", sum := "e05362f545e83e36ab5490d8ac926ce4f596a50cfc9093575703c476976ed3dd", checked := Tryf.checked }
namespace Rows
def none {H : Type} : Left H := { results := [], args := [] }

/-- 'zzlaws_pkg_sms_b1.FnMarshalBinaryMatchesTPDULayout': WHATEVER THE INPUT: true; the input reads as it did. -/
def fnMarshalBinaryMatchesTPDULayoutSpec : ChangeSpec := { name := "fnMarshalBinaryMatchesTPDULayout", fn := fun _ => fun
  | [d1, d2, d3, d4, d5, d6, d7, d8, d9, d10, d11, d12] => { results := [.lit (.bool true)], args := [d1, d2, d3, d4, d5, d6, d7, d8, d9, d10, d11, d12] }
  | _ => none }
def fnMarshalBinaryMatchesTPDULayoutRow : OpenClaim := { program := "qxb6613194afmt", sum := "e05362f545e83e36ab5490d8ac926ce4f596a50cfc9093575703c476976ed3dd", func := "example.com/heliograph/heliograph/zzlaws_pkg_sms_b1.FnMarshalBinaryMatchesTPDULayout", spec := "fnMarshalBinaryMatchesTPDULayout", stops := ["fmt.errorf"], inPlace := ["fmt.errorf"], apart := false }
/-- NO THEOREM (fmt's text is open here; it may be false): for the released tool's asking of the row's closed facts alone. THE STATEMENT IS 'FnMarshalBinaryMatchesTPDULayoutToldSaid' (Qxb6613194aFmtCards.lean). -/
def FnMarshalBinaryMatchesTPDULayoutFormAsk : Prop := fnMarshalBinaryMatchesTPDULayoutRow.holds Tryf.pinned (OpenSpec.ofChange fnMarshalBinaryMatchesTPDULayoutSpec)

/-- ITS FALSE NEIGHBOUR: 'it returns false'. Refute it at one input. -/
def fnMarshalBinaryMatchesTPDULayoutWrong : ChangeSpec := { name := "fnMarshalBinaryMatchesTPDULayout", fn := fun _ => fun
  | [d1, d2, d3, d4, d5, d6, d7, d8, d9, d10, d11, d12] => { results := [.lit (.bool false)], args := [d1, d2, d3, d4, d5, d6, d7, d8, d9, d10, d11, d12] }
  | _ => none }
def FnMarshalBinaryMatchesTPDULayoutWrongFormAsk : Prop := fnMarshalBinaryMatchesTPDULayoutRow.holds Tryf.pinned (OpenSpec.ofChange fnMarshalBinaryMatchesTPDULayoutWrong)

/-- 'zzlaws_pkg_sms_b1.FnMarshalBinaryValidityPeriodInsertsOneOctet': WHATEVER THE INPUT: true; the input reads as it did. -/
def fnMarshalBinaryValidityPeriodInsertsOneOctetSpec : ChangeSpec := { name := "fnMarshalBinaryValidityPeriodInsertsOneOctet", fn := fun _ => fun
  | [d1, d2, d3, d4, d5, d6, d7, d8, d9, d10, d11, d12] => { results := [.lit (.bool true)], args := [d1, d2, d3, d4, d5, d6, d7, d8, d9, d10, d11, d12] }
  | _ => none }
def fnMarshalBinaryValidityPeriodInsertsOneOctetRow : OpenClaim := { program := "qxb6613194afmt", sum := "e05362f545e83e36ab5490d8ac926ce4f596a50cfc9093575703c476976ed3dd", func := "example.com/heliograph/heliograph/zzlaws_pkg_sms_b1.FnMarshalBinaryValidityPeriodInsertsOneOctet", spec := "fnMarshalBinaryValidityPeriodInsertsOneOctet", stops := ["fmt.errorf"], inPlace := ["fmt.errorf"], apart := false }
/-- NO THEOREM (fmt's text is open here; it may be false): for the released tool's asking of the row's closed facts alone. THE STATEMENT IS 'FnMarshalBinaryValidityPeriodInsertsOneOctetToldSaid' (Qxb6613194aFmtCards.lean). -/
def FnMarshalBinaryValidityPeriodInsertsOneOctetFormAsk : Prop := fnMarshalBinaryValidityPeriodInsertsOneOctetRow.holds Tryf.pinned (OpenSpec.ofChange fnMarshalBinaryValidityPeriodInsertsOneOctetSpec)

/-- ITS FALSE NEIGHBOUR: 'it returns false'. Refute it at one input. -/
def fnMarshalBinaryValidityPeriodInsertsOneOctetWrong : ChangeSpec := { name := "fnMarshalBinaryValidityPeriodInsertsOneOctet", fn := fun _ => fun
  | [d1, d2, d3, d4, d5, d6, d7, d8, d9, d10, d11, d12] => { results := [.lit (.bool false)], args := [d1, d2, d3, d4, d5, d6, d7, d8, d9, d10, d11, d12] }
  | _ => none }
def FnMarshalBinaryValidityPeriodInsertsOneOctetWrongFormAsk : Prop := fnMarshalBinaryValidityPeriodInsertsOneOctetRow.holds Tryf.pinned (OpenSpec.ofChange fnMarshalBinaryValidityPeriodInsertsOneOctetWrong)

/-- 'zzlaws_pkg_sms_b1.FnDataCodingSchemeIsTheOctetMarshalBinaryWrites': WHATEVER THE INPUT: true; the input reads as it did. -/
def fnDataCodingSchemeIsTheOctetMarshalBinaryWritesSpec : ChangeSpec := { name := "fnDataCodingSchemeIsTheOctetMarshalBinaryWrites", fn := fun _ => fun
  | [d1, d2, d3] => { results := [.lit (.bool true)], args := [d1, d2, d3] }
  | _ => none }
def fnDataCodingSchemeIsTheOctetMarshalBinaryWritesRow : OpenClaim := { program := "qxb6613194afmt", sum := "e05362f545e83e36ab5490d8ac926ce4f596a50cfc9093575703c476976ed3dd", func := "example.com/heliograph/heliograph/zzlaws_pkg_sms_b1.FnDataCodingSchemeIsTheOctetMarshalBinaryWrites", spec := "fnDataCodingSchemeIsTheOctetMarshalBinaryWrites", stops := ["fmt.errorf"], inPlace := ["fmt.errorf"], apart := false }
/-- NO THEOREM (fmt's text is open here; it may be false): for the released tool's asking of the row's closed facts alone. THE STATEMENT IS 'FnDataCodingSchemeIsTheOctetMarshalBinaryWritesToldSaid' (Qxb6613194aFmtCards.lean). -/
def FnDataCodingSchemeIsTheOctetMarshalBinaryWritesFormAsk : Prop := fnDataCodingSchemeIsTheOctetMarshalBinaryWritesRow.holds Tryf.pinned (OpenSpec.ofChange fnDataCodingSchemeIsTheOctetMarshalBinaryWritesSpec)

/-- ITS FALSE NEIGHBOUR: 'it returns false'. Refute it at one input. -/
def fnDataCodingSchemeIsTheOctetMarshalBinaryWritesWrong : ChangeSpec := { name := "fnDataCodingSchemeIsTheOctetMarshalBinaryWrites", fn := fun _ => fun
  | [d1, d2, d3] => { results := [.lit (.bool false)], args := [d1, d2, d3] }
  | _ => none }
def FnDataCodingSchemeIsTheOctetMarshalBinaryWritesWrongFormAsk : Prop := fnDataCodingSchemeIsTheOctetMarshalBinaryWritesRow.holds Tryf.pinned (OpenSpec.ofChange fnDataCodingSchemeIsTheOctetMarshalBinaryWritesWrong)

end Rows
end Go.Proofs.Qxb6613194aFmt
