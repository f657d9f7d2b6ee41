/-
  No cell of these rows narrows 'for every input' (looked for: loops, veiled, ifaces, maps, wideKeys, modest, calm, conditions, laid).
  DERIVED. THE GIVEN ROWS OF THIS SEAT. 2 by the template 'for every input the law returns true; each argument reads behind the call as it read before'; 0 by the template 'total and deterministic' (their statements: Qxb6612255aTotals.lean).
  GIVEN WITH THE SEED: the statements are not yours to turn. If you find one false, say at which input.
  Laid BY PROGRAM, IN A SANDBOX (cutbox-rows.mjs): the forced cells as the released guide's own fill.sh prints them over the translation 93bd9be9354dd9c8… (all of the seat's roots in one cut). By AI agents, Wed Nov 11 2026. No macro, syntax, notation, axiom, sorry.
-/
import Derived.Test.Qxb6612255aChecked
import GoSem.Claim
import GoSem.ClaimJoined
import GoSem.ClaimMapViews
import Derived.JoinedTies
import Derived.KernelRfl
namespace Go.Proofs.Qxb6612255a
/- THE CELL 'sum', in the pinned program and in every row, IS THE sha256 OF THE DUMP (.gsa) THAT Qxb6612255aProg.lean LOADS. Nothing in Lean hashes anything: it is a label: what it is worth is what the hold of that sum in a sandbox is worth. -/
noncomputable def Try.pinned : Pinned := { name := "qxb6612255a", sum := "93bd9be9354dd9c822fb2b7cc4697db95047e00ed175f755440a4310e5e45e5f", checked := Try.checked }
namespace Rows
def none {H : Type} : Left H := { results := [], args := [] }

/-- 'zzlaws_internal_registry_b1.FnSetAtReadsBackThroughAtAndLeech': WHATEVER THE INPUT: true; the input reads as it did. -/
def fnSetAtReadsBackThroughAtAndLeechSpec : ChangeSpec := { name := "fnSetAtReadsBackThroughAtAndLeech", fn := fun _ => fun
  | [d1, d2, d3, d4] => { results := [.lit (.bool true)], args := [d1, d2, d3, d4] }
  | _ => none }
def fnSetAtReadsBackThroughAtAndLeechRow : OpenClaim := { program := "qxb6612255a", sum := "93bd9be9354dd9c822fb2b7cc4697db95047e00ed175f755440a4310e5e45e5f", func := "example.com/swarmkeeper/swarmkeeper/zzlaws_internal_registry_b1.FnSetAtReadsBackThroughAtAndLeech", spec := "fnSetAtReadsBackThroughAtAndLeech", apart := false }
def FnSetAtReadsBackThroughAtAndLeechSaid : Prop := fnSetAtReadsBackThroughAtAndLeechRow.holds Try.pinned (OpenSpec.ofChange fnSetAtReadsBackThroughAtAndLeechSpec)

/-- ITS FALSE NEIGHBOUR: 'it returns false'. Refute it at one input. -/
def fnSetAtReadsBackThroughAtAndLeechWrong : ChangeSpec := { name := "fnSetAtReadsBackThroughAtAndLeech", fn := fun _ => fun
  | [d1, d2, d3, d4] => { results := [.lit (.bool false)], args := [d1, d2, d3, d4] }
  | _ => none }
def FnSetAtReadsBackThroughAtAndLeechWrongFalsely : Prop := fnSetAtReadsBackThroughAtAndLeechRow.holds Try.pinned (OpenSpec.ofChange fnSetAtReadsBackThroughAtAndLeechWrong)

/-- 'zzlaws_internal_registry_b1.FnSetAtLastWinsAndKeepsTheModeBit': WHATEVER THE INPUT: true; the input reads as it did. -/
def fnSetAtLastWinsAndKeepsTheModeBitSpec : ChangeSpec := { name := "fnSetAtLastWinsAndKeepsTheModeBit", fn := fun _ => fun
  | [d1, d2, d3, d4, d5] => { results := [.lit (.bool true)], args := [d1, d2, d3, d4, d5] }
  | _ => none }
def fnSetAtLastWinsAndKeepsTheModeBitRow : OpenClaim := { program := "qxb6612255a", sum := "93bd9be9354dd9c822fb2b7cc4697db95047e00ed175f755440a4310e5e45e5f", func := "example.com/swarmkeeper/swarmkeeper/zzlaws_internal_registry_b1.FnSetAtLastWinsAndKeepsTheModeBit", spec := "fnSetAtLastWinsAndKeepsTheModeBit", apart := false }
def FnSetAtLastWinsAndKeepsTheModeBitSaid : Prop := fnSetAtLastWinsAndKeepsTheModeBitRow.holds Try.pinned (OpenSpec.ofChange fnSetAtLastWinsAndKeepsTheModeBitSpec)

/-- ITS FALSE NEIGHBOUR: 'it returns false'. Refute it at one input. -/
def fnSetAtLastWinsAndKeepsTheModeBitWrong : ChangeSpec := { name := "fnSetAtLastWinsAndKeepsTheModeBit", fn := fun _ => fun
  | [d1, d2, d3, d4, d5] => { results := [.lit (.bool false)], args := [d1, d2, d3, d4, d5] }
  | _ => none }
def FnSetAtLastWinsAndKeepsTheModeBitWrongFalsely : Prop := fnSetAtLastWinsAndKeepsTheModeBitRow.holds Try.pinned (OpenSpec.ofChange fnSetAtLastWinsAndKeepsTheModeBitWrong)

end Rows
end Go.Proofs.Qxb6612255a
