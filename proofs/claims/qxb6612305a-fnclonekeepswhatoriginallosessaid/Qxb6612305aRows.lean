/-
  No cell of these rows narrows 'for every input' (looked for: loops, veiled, ifaces, maps, wideKeys, modest, calm, conditions, laid).
  DERIVED. THE GIVEN ROWS OF THIS SEAT. 2 by the template 'for every input the law returns true; each argument reads behind the call as it read before'; 0 by the template 'total and deterministic' (their statements: Qxb6612305aTotals.lean).
  GIVEN WITH THE SEED: the statements are not yours to turn. If you find one false, say at which input.
  Laid BY PROGRAM, IN A SANDBOX (cutbox-rows.mjs): the forced cells as the released guide's own fill.sh prints them over the translation abac89e11827625c… (all of the seat's roots in one cut). By AI agents, Wed Nov 11 2026. No macro, syntax, notation, axiom, sorry.
-/
import Derived.Test.Qxb6612305aChecked
import GoSem.Claim
import GoSem.ClaimJoined
import GoSem.ClaimMapViews
import Derived.JoinedTies
import Derived.KernelRfl
namespace Go.Proofs.Qxb6612305a
/- THE CELL 'sum', in the pinned program and in every row, IS THE sha256 OF THE DUMP (.gsa) THAT Qxb6612305aProg.lean LOADS. Nothing in Lean hashes anything: it is a label: what it is worth is what the hold of that sum in a sandbox is worth. -/
noncomputable def Try.pinned : Pinned := { name := "qxb6612305a", sum := "abac89e11827625c84c7bfdf00f904bec7b2d734a87082cfcc9c46d8cd808d67", checked := Try.checked }
namespace Rows
def none {H : Type} : Left H := { results := [], args := [] }

/-- 'zzlaws_book_b1.FnCloneIsIndependentExactCopy': WHATEVER THE INPUT: true; the input reads as it did. -/
def fnCloneIsIndependentExactCopySpec : ChangeSpec := { name := "fnCloneIsIndependentExactCopy", fn := fun _ => fun
  | [d1, d2, d3, d4, d5] => { results := [.lit (.bool true)], args := [d1, d2, d3, d4, d5] }
  | _ => none }
def fnCloneIsIndependentExactCopyRow : OpenClaim := { program := "qxb6612305a", sum := "abac89e11827625c84c7bfdf00f904bec7b2d734a87082cfcc9c46d8cd808d67", func := "example.com/tenorbook/tenorbook/zzlaws_book_b1.FnCloneIsIndependentExactCopy", spec := "fnCloneIsIndependentExactCopy", inPlace := ["maps.clone"], apart := false }
def FnCloneIsIndependentExactCopySaid : Prop := fnCloneIsIndependentExactCopyRow.holds Try.pinned (OpenSpec.ofChange fnCloneIsIndependentExactCopySpec)

/-- ITS FALSE NEIGHBOUR: 'it returns false'. Refute it at one input. -/
def fnCloneIsIndependentExactCopyWrong : ChangeSpec := { name := "fnCloneIsIndependentExactCopy", fn := fun _ => fun
  | [d1, d2, d3, d4, d5] => { results := [.lit (.bool false)], args := [d1, d2, d3, d4, d5] }
  | _ => none }
def FnCloneIsIndependentExactCopyWrongFalsely : Prop := fnCloneIsIndependentExactCopyRow.holds Try.pinned (OpenSpec.ofChange fnCloneIsIndependentExactCopyWrong)

/-- 'zzlaws_book_b1.FnCloneKeepsWhatOriginalLoses': WHATEVER THE INPUT: true; the input reads as it did. -/
def fnCloneKeepsWhatOriginalLosesSpec : ChangeSpec := { name := "fnCloneKeepsWhatOriginalLoses", fn := fun _ => fun
  | [d1, d2, d3, d4, d5] => { results := [.lit (.bool true)], args := [d1, d2, d3, d4, d5] }
  | _ => none }
def fnCloneKeepsWhatOriginalLosesRow : OpenClaim := { program := "qxb6612305a", sum := "abac89e11827625c84c7bfdf00f904bec7b2d734a87082cfcc9c46d8cd808d67", func := "example.com/tenorbook/tenorbook/zzlaws_book_b1.FnCloneKeepsWhatOriginalLoses", spec := "fnCloneKeepsWhatOriginalLoses", inPlace := ["maps.clone"], apart := false }
def FnCloneKeepsWhatOriginalLosesSaid : Prop := fnCloneKeepsWhatOriginalLosesRow.holds Try.pinned (OpenSpec.ofChange fnCloneKeepsWhatOriginalLosesSpec)

/-- ITS FALSE NEIGHBOUR: 'it returns false'. Refute it at one input. -/
def fnCloneKeepsWhatOriginalLosesWrong : ChangeSpec := { name := "fnCloneKeepsWhatOriginalLoses", fn := fun _ => fun
  | [d1, d2, d3, d4, d5] => { results := [.lit (.bool false)], args := [d1, d2, d3, d4, d5] }
  | _ => none }
def FnCloneKeepsWhatOriginalLosesWrongFalsely : Prop := fnCloneKeepsWhatOriginalLosesRow.holds Try.pinned (OpenSpec.ofChange fnCloneKeepsWhatOriginalLosesWrong)

end Rows
end Go.Proofs.Qxb6612305a
