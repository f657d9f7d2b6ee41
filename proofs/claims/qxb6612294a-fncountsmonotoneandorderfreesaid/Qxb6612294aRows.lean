/-
  No cell of these rows narrows 'for every input' (looked for: loops, veiled, ifaces, maps, wideKeys, modest, calm, conditions, laid).
  DERIVED. THE GIVEN ROWS OF THIS SEAT. 2 by the template 'for every input the law returns true; each argument reads behind the call as it read before'; 0 by the template 'total and deterministic' (their statements: Qxb6612294aTotals.lean).
  GIVEN WITH THE SEED: the statements are not yours to turn. If you find one false, say at which input.
  Laid BY PROGRAM, IN A SANDBOX (cutbox-rows.mjs): the forced cells as the released guide's own fill.sh prints them over the translation 7fd2f861d0ef0b73… (all of the seat's roots in one cut). By AI agents, Wed Nov 11 2026. No macro, syntax, notation, axiom, sorry.
-/
import Derived.Test.Qxb6612294aChecked
import GoSem.Claim
import GoSem.ClaimJoined
import GoSem.ClaimMapViews
import Derived.JoinedTies
import Derived.KernelRfl
namespace Go.Proofs.Qxb6612294a
/- THE CELL 'sum', in the pinned program and in every row, IS THE sha256 OF THE DUMP (.gsa) THAT Qxb6612294aProg.lean LOADS. Nothing in Lean hashes anything: it is a label: what it is worth is what the hold of that sum in a sandbox is worth. -/
noncomputable def Try.pinned : Pinned := { name := "qxb6612294a", sum := "7fd2f861d0ef0b73a818d99035f800d70ec73c2133e0f93a058de0048c564483", checked := Try.checked }
namespace Rows
def none {H : Type} : Left H := { results := [], args := [] }

/-- 'zzlaws_pkg_settle_b1.FnCountsMatchesCaptureRules': WHATEVER THE INPUT: true; the input reads as it did. -/
def fnCountsMatchesCaptureRulesSpec : ChangeSpec := { name := "fnCountsMatchesCaptureRules", fn := fun _ => fun
  | [d1, d2] => { results := [.lit (.bool true)], args := [d1, d2] }
  | _ => none }
def fnCountsMatchesCaptureRulesRow : OpenClaim := { program := "qxb6612294a", sum := "7fd2f861d0ef0b73a818d99035f800d70ec73c2133e0f93a058de0048c564483", func := "example.com/fermeture/fermeture/zzlaws_pkg_settle_b1.FnCountsMatchesCaptureRules", spec := "fnCountsMatchesCaptureRules", apart := false }
def FnCountsMatchesCaptureRulesSaid : Prop := fnCountsMatchesCaptureRulesRow.holds Try.pinned (OpenSpec.ofChange fnCountsMatchesCaptureRulesSpec)

/-- ITS FALSE NEIGHBOUR: 'it returns false'. Refute it at one input. -/
def fnCountsMatchesCaptureRulesWrong : ChangeSpec := { name := "fnCountsMatchesCaptureRules", fn := fun _ => fun
  | [d1, d2] => { results := [.lit (.bool false)], args := [d1, d2] }
  | _ => none }
def FnCountsMatchesCaptureRulesWrongFalsely : Prop := fnCountsMatchesCaptureRulesRow.holds Try.pinned (OpenSpec.ofChange fnCountsMatchesCaptureRulesWrong)

/-- 'zzlaws_pkg_settle_b1.FnCountsMonotoneAndOrderFree': WHATEVER THE INPUT: true; the input reads as it did. -/
def fnCountsMonotoneAndOrderFreeSpec : ChangeSpec := { name := "fnCountsMonotoneAndOrderFree", fn := fun _ => fun
  | [d1, d2, d3, d4] => { results := [.lit (.bool true)], args := [d1, d2, d3, d4] }
  | _ => none }
def fnCountsMonotoneAndOrderFreeRow : OpenClaim := { program := "qxb6612294a", sum := "7fd2f861d0ef0b73a818d99035f800d70ec73c2133e0f93a058de0048c564483", func := "example.com/fermeture/fermeture/zzlaws_pkg_settle_b1.FnCountsMonotoneAndOrderFree", spec := "fnCountsMonotoneAndOrderFree", apart := false }
def FnCountsMonotoneAndOrderFreeSaid : Prop := fnCountsMonotoneAndOrderFreeRow.holds Try.pinned (OpenSpec.ofChange fnCountsMonotoneAndOrderFreeSpec)

/-- ITS FALSE NEIGHBOUR: 'it returns false'. Refute it at one input. -/
def fnCountsMonotoneAndOrderFreeWrong : ChangeSpec := { name := "fnCountsMonotoneAndOrderFree", fn := fun _ => fun
  | [d1, d2, d3, d4] => { results := [.lit (.bool false)], args := [d1, d2, d3, d4] }
  | _ => none }
def FnCountsMonotoneAndOrderFreeWrongFalsely : Prop := fnCountsMonotoneAndOrderFreeRow.holds Try.pinned (OpenSpec.ofChange fnCountsMonotoneAndOrderFreeWrong)

end Rows
end Go.Proofs.Qxb6612294a
