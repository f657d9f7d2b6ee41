import Derived.Test.Qxb6612294aRows
import Derived.Test.Qxb6612294aLaw3
import Derived.ProofKit
import Derived.OpenShut
import Derived.ShutString
import Derived.ChangeOld
namespace Go.Proofs.Qxb6612294a
open Go.ChangeShapes Go.WideShapes Go.ChangeAt Go.RowKit

theorem own : ownKnob Try.prog.godebug = none := by kernel_rfl
theorem laidOut : laidOutB Try.prog = true := by kernel_rfl
theorem cells22 : Try.prog.cellsOf 22 = 385 := by kernel_rfl
theorem cells4 : Try.prog.cellsOf 4 = 1 := by kernel_rfl
theorem cells2 : Try.prog.cellsOf 2 = 1 := by kernel_rfl

/-- what a cell says -/
def boolOf : Option Value → Bool
  | some (.bool b) => b
  | _ => false

/-- AN ARRAY OF 385 BOOLS THAT CAME IN, BY VALUE -/
theorem open_held {T : Type} {enc : TypeId × Value → T} {W : World} {base : Nat} {v : Value} {d : DataW T} {p : List MemPlace} {sp : Nat → Bool} {held : Bool}
    (hv : Value.okWide Try.prog W .any base 22 v) (h : DataW.Trod enc Try.prog W 0 sp held 22 v d p) : ∃ H : Nat → Bool, v = .agg (hl H).toArray := by
  obtain ⟨cs, rfl, hsz⟩ : ∃ cs, v = .agg cs ∧ cs.size = Try.prog.cellsOf 22 := by
    simp only [Value.okWide, Try.underlying22] at hv
    obtain ⟨cs, h1, h2, _⟩ := hv
    exact ⟨cs, h1, h2⟩
  rw [cells22] at hsz
  obtain ⟨fuel, hf⟩ := h
  obtain ⟨xs, m, _, _, _, hxl, hx⟩ := DataW.trod_array Try.underlying22 hf
  refine ⟨fun i => boolOf cs[i]?, ?_⟩
  congr 1
  apply Array.ext_getElem?
  intro i
  by_cases hi : i < 385
  · have h1 := hx i hi
    rw [cells4, Nat.mul_one, List.getElem?_eq_getElem (by omega)] at h1
    obtain ⟨b, hb, _⟩ := DataW.trod_bool Try.underlying4 h1
    have h2 : cs[i]? = some (.bool b) := by
      have := congrArg (fun l : List Value => l[0]?) hb
      simpa [Value.cells] using this
    have h3 := hl_get (fun i => boolOf cs[i]?) i hi
    rw [h2] at h3
    rw [h2]
    simpa [boolOf] using h3.symm
  · have h1 : cs[i]? = none := by simp; omega
    have h2 : (hl fun i => boolOf cs[i]?).toArray[i]? = none := by simp [hl_length]; omega
    rw [h1, h2]

/-- A SLICE OF int64 THAT CAME IN -/
theorem open_keys {T : Type} {enc : TypeId × Value → T} {W : World} {base : Nat} {v : Value} {d : DataW T} {p : List MemPlace} {held : Bool}
    (hv : Value.okWide Try.prog W .any base 23 v) (h : DataW.Trod enc Try.prog W 0 (fun _ => true) held 23 v d p) :
    ∃ (a : Option Addr) (n c : Nat) (ks : Nat → Int), v = .slice a n c ∧ n ≤ maxLen ∧ (a = none → n = 0 ∧ c = 0) ∧ Keys W a n ks ∧ ∀ j, j < n → (Lit.int .i64 (ks j)).wf = true := by
  obtain ⟨a, n, c, rfl⟩ := okWide_slice Try.underlying23 hv
  obtain ⟨fuel, hf⟩ := h
  rcases open_ints Try.underlying23 Try.underlying2 cells2 hf with ⟨hcs, _⟩ | ⟨x, l, c', zs, hcs, _, hl, hm, hz, _, hcell, hwz⟩
  · simp [Value.cells] at hcs
    obtain ⟨rfl, rfl, rfl⟩ := hcs
    exact ⟨none, 0, 0, fun _ => 0, rfl, Nat.zero_le _, fun _ => ⟨rfl, rfl⟩, fun h => by omega, fun j h => by omega⟩
  · simp [Value.cells] at hcs
    obtain ⟨rfl, rfl, rfl⟩ := hcs
    simp only [if_true] at hz
    have hw : ∀ j, j < n → (Lit.int .i64 (zs.getD j 0)).wf = true := fun j hj => by
      rw [List.getD_eq_getElem?_getD, List.getElem?_eq_getElem (by omega)]
      exact hwz _ (List.getElem_mem _)
    refine ⟨some x, n, c, fun j => zs.getD j 0, rfl, by omega, (fun h => by cases h), ?_, hw⟩
    intro hn
    obtain ⟨b, off, spot⟩ := x
    have hspot : spot = none := by simpa [Addr.add] using World.cell?_spot (hcell 0 (by omega))
    subst hspot
    exact ⟨b, off, rfl, fun j hj => by rw [← Addr.add_mid]; exact hcell j (by omega), hw⟩

end Go.Proofs.Qxb6612294a
