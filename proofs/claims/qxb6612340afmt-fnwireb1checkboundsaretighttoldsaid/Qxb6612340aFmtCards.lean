/-
  DERIVED. GIVEN WITH THE SEED: THE CARDS: each row of Qxb6612340aFmtRows.lean that lists a variable, with what it lists TIED to the program's text (the seventh form; the later family's looks); each row that meets fmt, with fmt's text TOLD by the authors' own Lean function (tested against real Go, not proved from fmt's source: count such statements apart). THE CARD IS WHAT COUNTS. Prove the row's statement (the work); the ties are given (Qxb6612340aFmtTie.lean); close each card by the builder's one call (the guide's Derived/Test/ToyasCard.lean, 'card_holds'). Laid BY PROGRAM, IN A SANDBOX (cutbox-door.mjs). By AI agents, Wed Nov 11 2026. No macro, syntax, notation, axiom, sorry.
-/
import Derived.Test.Qxb6612340aFmtRows
import GoSem.ClaimSeven
namespace Go.Proofs.Qxb6612340aFmt
namespace Rows

/-- THE TOLD AND TIED CARD OF 'zzlaws_internal_wire_b1.FnWireB1U8ReadsTheFirstByte'. -/
def fnWireB1U8ReadsTheFirstByteCard : Claim7 := { stood := { row := fnWireB1U8ReadsTheFirstByteRow, standIns := [], harness := (true, "f28f181af1a9218a2094aa4a976dc020e1b9b103715a9d5a9065177188620bda"), looks := false }, told := true, laidByText := true, laidKinds := [.sentinel], laidTests := true, laidLooks := .later, goes := false }
def FnWireB1U8ReadsTheFirstByteToldSaid : Prop := Claim7.holds Tryf.pinned (.plain (OpenSpec.ofChange fnWireB1U8ReadsTheFirstByteSpec)) fnWireB1U8ReadsTheFirstByteCard
/-- ITS FALSE NEIGHBOUR. Refute it at one input. -/
def FnWireB1U8ReadsTheFirstByteToldWrongFalsely : Prop := Claim7.holds Tryf.pinned (.plain (OpenSpec.ofChange fnWireB1U8ReadsTheFirstByteWrong)) fnWireB1U8ReadsTheFirstByteCard

/-- THE TOLD AND TIED CARD OF 'zzlaws_internal_wire_b1.FnWireB1U8ScriptSpellsTheBody'. -/
def fnWireB1U8ScriptSpellsTheBodyCard : Claim7 := { stood := { row := fnWireB1U8ScriptSpellsTheBodyRow, standIns := [], harness := (true, "f28f181af1a9218a2094aa4a976dc020e1b9b103715a9d5a9065177188620bda"), looks := false }, told := true, laidByText := true, laidKinds := [.sentinel], laidTests := true, laidLooks := .later, goes := false }
def FnWireB1U8ScriptSpellsTheBodyToldSaid : Prop := Claim7.holds Tryf.pinned (.plain (OpenSpec.ofChange fnWireB1U8ScriptSpellsTheBodySpec)) fnWireB1U8ScriptSpellsTheBodyCard
/-- ITS FALSE NEIGHBOUR. Refute it at one input. -/
def FnWireB1U8ScriptSpellsTheBodyToldWrongFalsely : Prop := Claim7.holds Tryf.pinned (.plain (OpenSpec.ofChange fnWireB1U8ScriptSpellsTheBodyWrong)) fnWireB1U8ScriptSpellsTheBodyCard

/-- THE TOLD AND TIED CARD OF 'zzlaws_internal_wire_b1.FnWireB1ParamsReadsALengthPrefixedField'. -/
def fnWireB1ParamsReadsALengthPrefixedFieldCard : Claim7 := { stood := { row := fnWireB1ParamsReadsALengthPrefixedFieldRow, standIns := [], harness := (true, "f28f181af1a9218a2094aa4a976dc020e1b9b103715a9d5a9065177188620bda"), looks := false }, told := true, laidByText := true, laidKinds := [.sentinel], laidTests := true, laidLooks := .later, goes := false }
def FnWireB1ParamsReadsALengthPrefixedFieldToldSaid : Prop := Claim7.holds Tryf.pinned (.plain (OpenSpec.ofChange fnWireB1ParamsReadsALengthPrefixedFieldSpec)) fnWireB1ParamsReadsALengthPrefixedFieldCard
/-- ITS FALSE NEIGHBOUR. Refute it at one input. -/
def FnWireB1ParamsReadsALengthPrefixedFieldToldWrongFalsely : Prop := Claim7.holds Tryf.pinned (.plain (OpenSpec.ofChange fnWireB1ParamsReadsALengthPrefixedFieldWrong)) fnWireB1ParamsReadsALengthPrefixedFieldCard

/-- THE TOLD AND TIED CARD OF 'zzlaws_internal_wire_b1.FnWireB1ParamsRoundTrip'. -/
def fnWireB1ParamsRoundTripCard : Claim7 := { stood := { row := fnWireB1ParamsRoundTripRow, standIns := [], harness := (true, "f28f181af1a9218a2094aa4a976dc020e1b9b103715a9d5a9065177188620bda"), looks := false }, told := true, laidByText := true, laidKinds := [.sentinel], laidTests := true, laidLooks := .later, goes := false }
def FnWireB1ParamsRoundTripToldSaid : Prop := Claim7.holds Tryf.pinned (.plain (OpenSpec.ofChange fnWireB1ParamsRoundTripSpec)) fnWireB1ParamsRoundTripCard
/-- ITS FALSE NEIGHBOUR. Refute it at one input. -/
def FnWireB1ParamsRoundTripToldWrongFalsely : Prop := Claim7.holds Tryf.pinned (.plain (OpenSpec.ofChange fnWireB1ParamsRoundTripWrong)) fnWireB1ParamsRoundTripCard

/-- THE TOLD CARD OF 'zzlaws_internal_wire_b1.FnWireB1CheckBoundsAreTight'. -/
def fnWireB1CheckBoundsAreTightCard : Claim7 := { stood := { row := fnWireB1CheckBoundsAreTightRow, standIns := [], harness := (true, "f28f181af1a9218a2094aa4a976dc020e1b9b103715a9d5a9065177188620bda"), looks := false }, told := true, goes := false }
def FnWireB1CheckBoundsAreTightToldSaid : Prop := Claim7.holds Tryf.pinned (.plain (OpenSpec.ofChange fnWireB1CheckBoundsAreTightSpec)) fnWireB1CheckBoundsAreTightCard
/-- ITS FALSE NEIGHBOUR. Refute it at one input. -/
def FnWireB1CheckBoundsAreTightToldWrongFalsely : Prop := Claim7.holds Tryf.pinned (.plain (OpenSpec.ofChange fnWireB1CheckBoundsAreTightWrong)) fnWireB1CheckBoundsAreTightCard
end Rows
end Go.Proofs.Qxb6612340aFmt
