/-
  NARROWER THAN 'FOR EVERY INPUT', by the rows' own cells (each row's printed sentence says how): FnWireB1U8ReadsTheFirstByte: ifaces, laid · FnWireB1U8ScriptSpellsTheBody: ifaces, laid · FnWireB1ParamsReadsALengthPrefixedField: ifaces, laid · FnWireB1ParamsRoundTrip: ifaces, laid.
  DERIVED. THE GIVEN ROWS OF THIS SEAT. 5 by the template 'for every input the law returns true; each argument reads behind the call as it read before'; 0 by the template 'total and deterministic' (their statements: Qxb6612340aFmtTotals.lean).
  GIVEN WITH THE SEED: the statements are not yours to turn. If you find one false, say at which input.
  Laid BY PROGRAM, IN A SANDBOX (cutbox-rows.mjs): the forced cells as the released guide's own fill.sh prints them over the translation 959a177ee25a59bb… (all of the seat's roots in one cut). By AI agents, Wed Nov 11 2026. No macro, syntax, notation, axiom, sorry.
-/
import Derived.Test.Qxb6612340aFmtChecked
import GoSem.Claim
import GoSem.ClaimJoined
import GoSem.ClaimMapViews
import Derived.JoinedTies
import Derived.KernelRfl
namespace Go.Proofs.Qxb6612340aFmt
/- THE CELL 'sum', in the pinned program and in every row, IS THE sha256 OF THE DUMP (.gsa) THAT Qxb6612340aFmtProg.lean LOADS. Nothing in Lean hashes anything: it is a label: what it is worth is what the hold of that sum in a sandbox is worth. -/
noncomputable def Tryf.pinned : Pinned := { name := "qxb6612340afmt", sum := "959a177ee25a59bbffbcd0f54f17355421f8d878b8eb1514660aabaf69da4a03", checked := Tryf.checked }
namespace Rows
def none {H : Type} : Left H := { results := [], args := [] }

/- WHAT THE LISTED PACKAGE-LEVEL VARIABLES READ AS WHEN THE CALL BEGINS. Each datum BY PROGRAM (the guide's laid-datum.mjs) off the statement by which the dump's own 'gosem.cut.vars' lays the variable. In a bare row this is a premise. The card (Qxb6612340aFmtCards.lean) ties it to the program's text. -/
def laid_example_com_redoubt_redoubt_internal_wire_ErrMalformed {H : Type} : DataW H := .iface "*errors.errorString" (.ptr (.agg [.lit (.string [109, 97, 108, 102, 111, 114, 109, 101, 100, 32, 109, 101, 115, 115, 97, 103, 101])]))

/-- 'zzlaws_internal_wire_b1.FnWireB1U8ReadsTheFirstByte': WHATEVER THE INPUT: true; the input reads as it did. -/
def fnWireB1U8ReadsTheFirstByteSpec : ChangeSpec := { name := "fnWireB1U8ReadsTheFirstByte", vars := ["example.com/redoubt/redoubt/internal/wire.ErrMalformed"], fn := fun _ => fun
  | [d1, d2, g1] => { results := [.lit (.bool true)], args := [d1, d2], vars := [g1] }
  | _ => none }
def fnWireB1U8ReadsTheFirstByteRow : OpenClaim := { program := "qxb6612340afmt", sum := "959a177ee25a59bbffbcd0f54f17355421f8d878b8eb1514660aabaf69da4a03", func := "example.com/redoubt/redoubt/zzlaws_internal_wire_b1.FnWireB1U8ReadsTheFirstByte", spec := "fnWireB1U8ReadsTheFirstByte", stops := ["fmt.errorf, its operands' methods called", "fmt.Sprintf"], inPlace := ["fmt.errorf"], unfollowed := true, recurses := true, named := ["example.com/redoubt/redoubt/internal/wire.ErrMalformed"], ifaces := true, apart := false, laid := [("example.com/redoubt/redoubt/internal/wire.ErrMalformed", laid_example_com_redoubt_redoubt_internal_wire_ErrMalformed)] }
/-- NO THEOREM (fmt's text is open here; it may be false): for the released tool's asking of the row's closed facts alone. THE STATEMENT IS 'FnWireB1U8ReadsTheFirstByteToldSaid' (Qxb6612340aFmtCards.lean). -/
def FnWireB1U8ReadsTheFirstByteFormAsk : Prop := fnWireB1U8ReadsTheFirstByteRow.holds Tryf.pinned (OpenSpec.ofChange fnWireB1U8ReadsTheFirstByteSpec)

/-- ITS FALSE NEIGHBOUR: 'it returns false'. Refute it at one input. -/
def fnWireB1U8ReadsTheFirstByteWrong : ChangeSpec := { name := "fnWireB1U8ReadsTheFirstByte", vars := ["example.com/redoubt/redoubt/internal/wire.ErrMalformed"], fn := fun _ => fun
  | [d1, d2, g1] => { results := [.lit (.bool false)], args := [d1, d2], vars := [g1] }
  | _ => none }
def FnWireB1U8ReadsTheFirstByteWrongFormAsk : Prop := fnWireB1U8ReadsTheFirstByteRow.holds Tryf.pinned (OpenSpec.ofChange fnWireB1U8ReadsTheFirstByteWrong)

/-- 'zzlaws_internal_wire_b1.FnWireB1U8ScriptSpellsTheBody': WHATEVER THE INPUT: true; the input reads as it did. -/
def fnWireB1U8ScriptSpellsTheBodySpec : ChangeSpec := { name := "fnWireB1U8ScriptSpellsTheBody", vars := ["example.com/redoubt/redoubt/internal/wire.ErrMalformed"], fn := fun _ => fun
  | [d, g1] => { results := [.lit (.bool true)], args := [d], vars := [g1] }
  | _ => none }
def fnWireB1U8ScriptSpellsTheBodyRow : OpenClaim := { program := "qxb6612340afmt", sum := "959a177ee25a59bbffbcd0f54f17355421f8d878b8eb1514660aabaf69da4a03", func := "example.com/redoubt/redoubt/zzlaws_internal_wire_b1.FnWireB1U8ScriptSpellsTheBody", spec := "fnWireB1U8ScriptSpellsTheBody", stops := ["fmt.errorf, its operands' methods called", "fmt.Sprintf"], inPlace := ["fmt.errorf"], unfollowed := true, recurses := true, named := ["example.com/redoubt/redoubt/internal/wire.ErrMalformed"], ifaces := true, apart := false, laid := [("example.com/redoubt/redoubt/internal/wire.ErrMalformed", laid_example_com_redoubt_redoubt_internal_wire_ErrMalformed)] }
/-- NO THEOREM (fmt's text is open here; it may be false): for the released tool's asking of the row's closed facts alone. THE STATEMENT IS 'FnWireB1U8ScriptSpellsTheBodyToldSaid' (Qxb6612340aFmtCards.lean). -/
def FnWireB1U8ScriptSpellsTheBodyFormAsk : Prop := fnWireB1U8ScriptSpellsTheBodyRow.holds Tryf.pinned (OpenSpec.ofChange fnWireB1U8ScriptSpellsTheBodySpec)

/-- ITS FALSE NEIGHBOUR: 'it returns false'. Refute it at one input. -/
def fnWireB1U8ScriptSpellsTheBodyWrong : ChangeSpec := { name := "fnWireB1U8ScriptSpellsTheBody", vars := ["example.com/redoubt/redoubt/internal/wire.ErrMalformed"], fn := fun _ => fun
  | [d, g1] => { results := [.lit (.bool false)], args := [d], vars := [g1] }
  | _ => none }
def FnWireB1U8ScriptSpellsTheBodyWrongFormAsk : Prop := fnWireB1U8ScriptSpellsTheBodyRow.holds Tryf.pinned (OpenSpec.ofChange fnWireB1U8ScriptSpellsTheBodyWrong)

/-- 'zzlaws_internal_wire_b1.FnWireB1ParamsReadsALengthPrefixedField': WHATEVER THE INPUT: true; the input reads as it did. -/
def fnWireB1ParamsReadsALengthPrefixedFieldSpec : ChangeSpec := { name := "fnWireB1ParamsReadsALengthPrefixedField", vars := ["example.com/redoubt/redoubt/internal/wire.ErrMalformed"], fn := fun _ => fun
  | [d1, d2, g1] => { results := [.lit (.bool true)], args := [d1, d2], vars := [g1] }
  | _ => none }
def fnWireB1ParamsReadsALengthPrefixedFieldRow : OpenClaim := { program := "qxb6612340afmt", sum := "959a177ee25a59bbffbcd0f54f17355421f8d878b8eb1514660aabaf69da4a03", func := "example.com/redoubt/redoubt/zzlaws_internal_wire_b1.FnWireB1ParamsReadsALengthPrefixedField", spec := "fnWireB1ParamsReadsALengthPrefixedField", stops := ["fmt.errorf, its operands' methods called", "fmt.Sprintf"], inPlace := ["fmt.errorf"], unfollowed := true, recurses := true, named := ["example.com/redoubt/redoubt/internal/wire.ErrMalformed"], ifaces := true, apart := false, laid := [("example.com/redoubt/redoubt/internal/wire.ErrMalformed", laid_example_com_redoubt_redoubt_internal_wire_ErrMalformed)] }
/-- NO THEOREM (fmt's text is open here; it may be false): for the released tool's asking of the row's closed facts alone. THE STATEMENT IS 'FnWireB1ParamsReadsALengthPrefixedFieldToldSaid' (Qxb6612340aFmtCards.lean). -/
def FnWireB1ParamsReadsALengthPrefixedFieldFormAsk : Prop := fnWireB1ParamsReadsALengthPrefixedFieldRow.holds Tryf.pinned (OpenSpec.ofChange fnWireB1ParamsReadsALengthPrefixedFieldSpec)

/-- ITS FALSE NEIGHBOUR: 'it returns false'. Refute it at one input. -/
def fnWireB1ParamsReadsALengthPrefixedFieldWrong : ChangeSpec := { name := "fnWireB1ParamsReadsALengthPrefixedField", vars := ["example.com/redoubt/redoubt/internal/wire.ErrMalformed"], fn := fun _ => fun
  | [d1, d2, g1] => { results := [.lit (.bool false)], args := [d1, d2], vars := [g1] }
  | _ => none }
def FnWireB1ParamsReadsALengthPrefixedFieldWrongFormAsk : Prop := fnWireB1ParamsReadsALengthPrefixedFieldRow.holds Tryf.pinned (OpenSpec.ofChange fnWireB1ParamsReadsALengthPrefixedFieldWrong)

/-- 'zzlaws_internal_wire_b1.FnWireB1ParamsRoundTrip': WHATEVER THE INPUT: true; the input reads as it did. -/
def fnWireB1ParamsRoundTripSpec : ChangeSpec := { name := "fnWireB1ParamsRoundTrip", vars := ["example.com/redoubt/redoubt/internal/wire.ErrMalformed"], fn := fun _ => fun
  | [d1, d2, g1] => { results := [.lit (.bool true)], args := [d1, d2], vars := [g1] }
  | _ => none }
def fnWireB1ParamsRoundTripRow : OpenClaim := { program := "qxb6612340afmt", sum := "959a177ee25a59bbffbcd0f54f17355421f8d878b8eb1514660aabaf69da4a03", func := "example.com/redoubt/redoubt/zzlaws_internal_wire_b1.FnWireB1ParamsRoundTrip", spec := "fnWireB1ParamsRoundTrip", stops := ["fmt.errorf, its operands' methods called", "fmt.Sprintf"], inPlace := ["fmt.errorf"], unfollowed := true, recurses := true, named := ["example.com/redoubt/redoubt/internal/wire.ErrMalformed"], ifaces := true, apart := false, laid := [("example.com/redoubt/redoubt/internal/wire.ErrMalformed", laid_example_com_redoubt_redoubt_internal_wire_ErrMalformed)] }
/-- NO THEOREM (fmt's text is open here; it may be false): for the released tool's asking of the row's closed facts alone. THE STATEMENT IS 'FnWireB1ParamsRoundTripToldSaid' (Qxb6612340aFmtCards.lean). -/
def FnWireB1ParamsRoundTripFormAsk : Prop := fnWireB1ParamsRoundTripRow.holds Tryf.pinned (OpenSpec.ofChange fnWireB1ParamsRoundTripSpec)

/-- ITS FALSE NEIGHBOUR: 'it returns false'. Refute it at one input. -/
def fnWireB1ParamsRoundTripWrong : ChangeSpec := { name := "fnWireB1ParamsRoundTrip", vars := ["example.com/redoubt/redoubt/internal/wire.ErrMalformed"], fn := fun _ => fun
  | [d1, d2, g1] => { results := [.lit (.bool false)], args := [d1, d2], vars := [g1] }
  | _ => none }
def FnWireB1ParamsRoundTripWrongFormAsk : Prop := fnWireB1ParamsRoundTripRow.holds Tryf.pinned (OpenSpec.ofChange fnWireB1ParamsRoundTripWrong)

/-- 'zzlaws_internal_wire_b1.FnWireB1CheckBoundsAreTight': WHATEVER THE INPUT: true; the input reads as it did. -/
def fnWireB1CheckBoundsAreTightSpec : ChangeSpec := { name := "fnWireB1CheckBoundsAreTight", fn := fun _ => fun
  | [d] => { results := [.lit (.bool true)], args := [d] }
  | _ => none }
def fnWireB1CheckBoundsAreTightRow : OpenClaim := { program := "qxb6612340afmt", sum := "959a177ee25a59bbffbcd0f54f17355421f8d878b8eb1514660aabaf69da4a03", func := "example.com/redoubt/redoubt/zzlaws_internal_wire_b1.FnWireB1CheckBoundsAreTight", spec := "fnWireB1CheckBoundsAreTight", stops := ["fmt.errorf, its operands' methods called", "fmt.Sprintf"], inPlace := ["fmt.errorf"], unfollowed := true, recurses := true, apart := false }
/-- NO THEOREM (fmt's text is open here; it may be false): for the released tool's asking of the row's closed facts alone. THE STATEMENT IS 'FnWireB1CheckBoundsAreTightToldSaid' (Qxb6612340aFmtCards.lean). -/
def FnWireB1CheckBoundsAreTightFormAsk : Prop := fnWireB1CheckBoundsAreTightRow.holds Tryf.pinned (OpenSpec.ofChange fnWireB1CheckBoundsAreTightSpec)

/-- ITS FALSE NEIGHBOUR: 'it returns false'. Refute it at one input. -/
def fnWireB1CheckBoundsAreTightWrong : ChangeSpec := { name := "fnWireB1CheckBoundsAreTight", fn := fun _ => fun
  | [d] => { results := [.lit (.bool false)], args := [d] }
  | _ => none }
def FnWireB1CheckBoundsAreTightWrongFormAsk : Prop := fnWireB1CheckBoundsAreTightRow.holds Tryf.pinned (OpenSpec.ofChange fnWireB1CheckBoundsAreTightWrong)

end Rows
end Go.Proofs.Qxb6612340aFmt
