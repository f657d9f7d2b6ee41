import Derived.Test.Qxb6612305aRows
import Derived.Test.Qxb6612305aSmall
import Derived.ProofKit
import Derived.OpenShut
import Derived.ShutString
import Derived.ChangeOld
import Derived.SliceStrings
namespace Go.Proofs.Qxb6612305a
open Go.ChangeShapes Go.WideShapes Go.ChangeAt Go.RowKit

theorem own : ownKnob Try.prog.godebug = none := by kernel_rfl
theorem laidOut : laidOutB Try.prog = true := by kernel_rfl
theorem cells9 : Try.prog.cellsOf 9 = 1 := by kernel_rfl
theorem cells3 : Try.prog.cellsOf 3 = 1 := by kernel_rfl

/-- A SLICE OF STRINGS THAT CAME IN -/
theorem open_strs {T : Type} {enc : TypeId × Value → T} {W : World} {base : Nat} {v : Value} {d : DataW T} {p : List MemPlace} {held : Bool}
    (hv : Value.okWide Try.prog W .any base 22 v) (h : DataW.Trod enc Try.prog W 0 (fun _ => true) held 22 v d p) :
    ∃ (a : Option Addr) (n c : Nat) (nm : Nat → ByteArray), v = .slice a n c ∧ n ≤ maxLen ∧ Strs W a n nm ∧ ∀ j, j < n → (nm j).size ≤ maxLen := by
  obtain ⟨a, n, c, rfl⟩ := okWide_slice Try.underlying22 hv
  obtain ⟨fuel, hf⟩ := h
  rcases open_strings Try.underlying22 Try.underlying9 cells9 hf with ⟨hcs, _⟩ | ⟨x, l, c', ss, hcs, _, hl, hm, hz, _, hcell, hws⟩
  · simp [Value.cells] at hcs
    obtain ⟨rfl, rfl, rfl⟩ := hcs
    exact ⟨none, 0, 0, fun _ => ByteArray.empty, rfl, Nat.zero_le _, fun h => by omega, fun j h => by omega⟩
  · simp [Value.cells] at hcs
    obtain ⟨rfl, rfl, rfl⟩ := hcs
    simp only [if_true] at hz
    refine ⟨some x, n, c, fun j => ss.getD j ByteArray.empty, rfl, by omega, ?_, fun j hj => ?_⟩
    · intro hn
      obtain ⟨b, off, spot⟩ := x
      have hspot : spot = none := by simpa [Addr.add] using World.cell?_spot (hcell 0 (by omega))
      subst hspot
      refine ⟨b, off, rfl, fun j hj => ?_⟩
      rw [← add_plain]
      exact hcell j (by omega)
    · show (ss.getD j ByteArray.empty).size ≤ maxLen
      rw [List.getD_eq_getElem?_getD, List.getElem?_eq_getElem (by omega)]
      exact hws _ (List.getElem_mem _)

/-- A SLICE OF int THAT CAME IN -/
theorem open_intsIn {T : Type} {enc : TypeId × Value → T} {W : World} {base : Nat} {v : Value} {d : DataW T} {p : List MemPlace} {held : Bool}
    (hv : Value.okWide Try.prog W .any base 23 v) (h : DataW.Trod enc Try.prog W 0 (fun _ => true) held 23 v d p) :
    ∃ (a : Option Addr) (n c : Nat) (de : Nat → Int), v = .slice a n c ∧ n ≤ maxLen ∧ Ints W a n de := by
  obtain ⟨a, n, c, rfl⟩ := okWide_slice Try.underlying23 hv
  obtain ⟨fuel, hf⟩ := h
  rcases open_ints Try.underlying23 Try.underlying3 cells3 hf with ⟨hcs, _⟩ | ⟨x, l, c', zs, hcs, _, hl, hm, hz, _, hcell, hwz⟩
  · simp [Value.cells] at hcs
    obtain ⟨rfl, rfl, rfl⟩ := hcs
    exact ⟨none, 0, 0, fun _ => 0, rfl, Nat.zero_le _, fun h => by omega⟩
  · simp [Value.cells] at hcs
    obtain ⟨rfl, rfl, rfl⟩ := hcs
    simp only [if_true] at hz
    refine ⟨some x, n, c, fun j => zs.getD j 0, rfl, by omega, ?_⟩
    intro hn
    obtain ⟨b, off, spot⟩ := x
    have hspot : spot = none := by simpa [Addr.add] using World.cell?_spot (hcell 0 (by omega))
    subst hspot
    refine ⟨b, off, rfl, fun j hj => ?_⟩
    rw [← add_plain]
    exact hcell j (by omega)
end Go.Proofs.Qxb6612305a
