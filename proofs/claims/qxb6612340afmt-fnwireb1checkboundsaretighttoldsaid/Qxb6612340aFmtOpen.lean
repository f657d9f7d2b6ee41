import Derived.Test.Qxb6612340aFmtLaw
import Derived.Test.Qxb6612340aFmtCards
import Derived.ProofKit
import Derived.OpenShut
namespace Go.Proofs.Qxb6612340aFmt
open Go.ChangeShapes Go.WideShapes Go.ChangeAt Go.RowKit
open Go.Extern.Stop Go.Stop Go.Extern

theorem own : ownKnob Tryf.prog.godebug = none := by kernel_rfl
theorem laidOut : laidOutB Tryf.prog = true := by kernel_rfl
theorem cells38 : Tryf.prog.cellsOf 38 = 46 := by kernel_rfl
theorem cells5 : Tryf.prog.cellsOf 5 = 1 := by kernel_rfl
theorem cells3 : Tryf.prog.cellsOf 3 = 1 := by kernel_rfl
theorem cells9 : Tryf.prog.cellsOf 9 = 1 := by kernel_rfl
theorem cells35 : Tryf.prog.cellsOf 35 = 1 := by kernel_rfl
theorem cells22 : Tryf.prog.cellsOf 22 = 1 := by kernel_rfl
theorem cells4 : Tryf.prog.cellsOf 4 = 1 := by kernel_rfl
theorem cells2 : Tryf.prog.cellsOf 2 = 1 := by kernel_rfl
theorem cells36 : Tryf.prog.cellsOf 36 = 16 := by kernel_rfl

theorem cell_of {cs : List Value} {o : Nat} {v : Value} (h : (cs.drop o).take 1 = [v]) : cs[o]? = some v := by
  have h0 : ((cs.drop o).take 1)[0]? = some v := by rw [h]; rfl
  simpa [List.getElem?_take, List.getElem?_drop] using h0

section
variable {T : Type} {enc : TypeId × Value → T} {W : World} {base : Nat} {spare : Nat → Bool} {held : Bool} {m N i o : Nat} {t : TypeId} {cs : List Value} {xs : List (DataW T × List MemPlace)}
theorem fld (hl : xs.length = N) (hi : i < N) (h : DataW.trod enc Tryf.prog W base spare held m t ((cs.drop o).take (Tryf.prog.cellsOf t)) = xs[i]?) : ∃ x, DataW.trod enc Tryf.prog W base spare held m t ((cs.drop o).take (Tryf.prog.cellsOf t)) = some x :=
  ⟨_, h.trans (List.getElem?_eq_getElem (by omega))⟩
theorem fld_int {k : IntKind} (ht : Tryf.prog.underlying t = some (.int k)) (h1 : Tryf.prog.cellsOf t = 1) (hl : xs.length = N) (hi : i < N) (h : DataW.trod enc Tryf.prog W base spare held m t ((cs.drop o).take (Tryf.prog.cellsOf t)) = xs[i]?) : ∃ v, cs[o]? = some (.int k v) := by
  obtain ⟨x, hx⟩ := fld hl hi h
  obtain ⟨v, e, _⟩ := DataW.trod_int ht hx
  rw [h1] at e
  exact ⟨v, cell_of e⟩
theorem fld_bool (ht : Tryf.prog.underlying t = some .bool) (h1 : Tryf.prog.cellsOf t = 1) (hl : xs.length = N) (hi : i < N) (h : DataW.trod enc Tryf.prog W base spare held m t ((cs.drop o).take (Tryf.prog.cellsOf t)) = xs[i]?) : ∃ v, cs[o]? = some (.bool v) := by
  obtain ⟨x, hx⟩ := fld hl hi h
  obtain ⟨v, e, _⟩ := DataW.trod_bool ht hx
  rw [h1] at e
  exact ⟨v, cell_of e⟩
theorem fld_string (ht : Tryf.prog.underlying t = some .string) (h1 : Tryf.prog.cellsOf t = 1) (hl : xs.length = N) (hi : i < N) (h : DataW.trod enc Tryf.prog W base spare held m t ((cs.drop o).take (Tryf.prog.cellsOf t)) = xs[i]?) : ∃ v, cs[o]? = some (.string v) := by
  obtain ⟨x, hx⟩ := fld hl hi h
  obtain ⟨v, e, _⟩ := DataW.trod_string ht hx
  rw [h1] at e
  exact ⟨v, cell_of e⟩
theorem fld_slice {e : TypeId} (ht : Tryf.prog.underlying t = some (.slice e)) (h1 : Tryf.prog.cellsOf t = 1) (hl : xs.length = N) (hi : i < N) (h : DataW.trod enc Tryf.prog W base spare held m t ((cs.drop o).take (Tryf.prog.cellsOf t)) = xs[i]?) : ∃ v : Sl, cs[o]? = some (.slice v.a v.l v.c) ∧ v.l ≤ v.c := by
  obtain ⟨x, hx⟩ := fld hl hi h
  rcases DataW.trod_slice ht hx with ⟨e, _⟩ | ⟨a, l, c, _, _, _, _, e, _, _, hlc, _⟩
  · rw [h1] at e
    exact ⟨⟨none, 0, 0⟩, cell_of e, Nat.le_refl _⟩
  · rw [h1] at e
    exact ⟨⟨some a, l, c⟩, cell_of e, hlc⟩
/-- a cell of the array that starts at offset 18 -/
theorem fld_key (hl : xs.length = N) (hi : i < N) (h : DataW.trod enc Tryf.prog W base spare held m 36 ((cs.drop 18).take (Tryf.prog.cellsOf 36)) = xs[i]?) : ∀ j, j < 16 → ∃ v, cs[18 + j]? = some (.int .u8 v) := by
  obtain ⟨x, hx⟩ := fld hl hi h
  obtain ⟨ys, m, _, _, _, hy, hf⟩ := DataW.trod_array Tryf.underlying36 hx
  intro j hj
  obtain ⟨v, hv⟩ := fld_int Tryf.underlying5 cells5 hy hj (hf j hj)
  refine ⟨v, ?_⟩
  rw [cells5, cells36, List.getElem?_take, List.getElem?_drop, Nat.mul_one, if_pos hj] at hv
  exact hv
end

/-- A REQUEST THAT CAME IN: its 46 cells; of its slices each is no longer than it has room -/
theorem open_req {T : Type} {enc : TypeId × Value → T} {W : World} {base : Nat} {v : Value} {d : DataW T} {p : List MemPlace} {held : Bool}
    (hv : Value.okWide Tryf.prog W .any base 38 v) (h : DataW.Trod enc Tryf.prog W 0 (fun _ => true) held 38 v d p) :
    ∃ (n : Nat → Int) (b : Nat → Bool) (r : Req), v = .agg (lay n b r) ∧ Fits r := by
  obtain ⟨cs, rfl, hsz⟩ := okWide_struct Tryf.underlying38 hv
  rw [cells38] at hsz
  obtain ⟨fuel, hf⟩ := h
  obtain ⟨xs, m, _, _, _, hl, hfs⟩ := DataW.trod_struct Tryf.underlying38 hf
  have hl' : xs.length = 31 := hl
  obtain ⟨l⟩ := cs
  have hlen : l.length = 46 := hsz
  obtain ⟨x0, h0⟩ := fld_int (cs := l) (o := 0) Tryf.underlying5 cells5 hl' (by decide : 0 < 31) (hfs 0 _ rfl)
  obtain ⟨x1, h1⟩ := fld_int (cs := l) (o := 1) Tryf.underlying3 cells3 hl' (by decide : 1 < 31) (hfs 1 _ rfl)
  obtain ⟨x2, h2⟩ := fld_string (cs := l) (o := 2) Tryf.underlying9 cells9 hl' (by decide : 2 < 31) (hfs 2 _ rfl)
  obtain ⟨x3, h3⟩ := fld_int (cs := l) (o := 3) Tryf.underlying35 cells35 hl' (by decide : 3 < 31) (hfs 3 _ rfl)
  obtain ⟨x4, h4⟩ := fld_int (cs := l) (o := 4) Tryf.underlying35 cells35 hl' (by decide : 4 < 31) (hfs 4 _ rfl)
  obtain ⟨x5, h5, f5⟩ := fld_slice (cs := l) (o := 5) Tryf.underlying22 cells22 hl' (by decide : 5 < 31) (hfs 5 _ rfl)
  obtain ⟨x6, h6, f6⟩ := fld_slice (cs := l) (o := 6) Tryf.underlying22 cells22 hl' (by decide : 6 < 31) (hfs 6 _ rfl)
  obtain ⟨x7, h7⟩ := fld_int (cs := l) (o := 7) Tryf.underlying35 cells35 hl' (by decide : 7 < 31) (hfs 7 _ rfl)
  obtain ⟨x8, h8, f8⟩ := fld_slice (cs := l) (o := 8) Tryf.underlying22 cells22 hl' (by decide : 8 < 31) (hfs 8 _ rfl)
  obtain ⟨x9, h9, f9⟩ := fld_slice (cs := l) (o := 9) Tryf.underlying22 cells22 hl' (by decide : 9 < 31) (hfs 9 _ rfl)
  obtain ⟨x10, h10⟩ := fld_bool (cs := l) (o := 10) Tryf.underlying4 cells4 hl' (by decide : 10 < 31) (hfs 10 _ rfl)
  obtain ⟨x11, h11⟩ := fld_bool (cs := l) (o := 11) Tryf.underlying4 cells4 hl' (by decide : 11 < 31) (hfs 11 _ rfl)
  obtain ⟨x12, h12⟩ := fld_int (cs := l) (o := 12) Tryf.underlying2 cells2 hl' (by decide : 12 < 31) (hfs 12 _ rfl)
  obtain ⟨x13, h13⟩ := fld_int (cs := l) (o := 13) Tryf.underlying35 cells35 hl' (by decide : 13 < 31) (hfs 13 _ rfl)
  obtain ⟨x14, h14⟩ := fld_int (cs := l) (o := 14) Tryf.underlying35 cells35 hl' (by decide : 14 < 31) (hfs 14 _ rfl)
  obtain ⟨x15, h15, f15⟩ := fld_slice (cs := l) (o := 15) Tryf.underlying22 cells22 hl' (by decide : 15 < 31) (hfs 15 _ rfl)
  obtain ⟨x16, h16⟩ := fld_int (cs := l) (o := 16) Tryf.underlying35 cells35 hl' (by decide : 16 < 31) (hfs 16 _ rfl)
  obtain ⟨x17, h17⟩ := fld_int (cs := l) (o := 17) Tryf.underlying35 cells35 hl' (by decide : 17 < 31) (hfs 17 _ rfl)
  have hkey := fld_key (cs := l) hl' (by decide : 18 < 31) (hfs 18 _ rfl)
  obtain ⟨x18, h18⟩ := hkey 0 (by decide)
  obtain ⟨x19, h19⟩ := hkey 1 (by decide)
  obtain ⟨x20, h20⟩ := hkey 2 (by decide)
  obtain ⟨x21, h21⟩ := hkey 3 (by decide)
  obtain ⟨x22, h22⟩ := hkey 4 (by decide)
  obtain ⟨x23, h23⟩ := hkey 5 (by decide)
  obtain ⟨x24, h24⟩ := hkey 6 (by decide)
  obtain ⟨x25, h25⟩ := hkey 7 (by decide)
  obtain ⟨x26, h26⟩ := hkey 8 (by decide)
  obtain ⟨x27, h27⟩ := hkey 9 (by decide)
  obtain ⟨x28, h28⟩ := hkey 10 (by decide)
  obtain ⟨x29, h29⟩ := hkey 11 (by decide)
  obtain ⟨x30, h30⟩ := hkey 12 (by decide)
  obtain ⟨x31, h31⟩ := hkey 13 (by decide)
  obtain ⟨x32, h32⟩ := hkey 14 (by decide)
  obtain ⟨x33, h33⟩ := hkey 15 (by decide)
  obtain ⟨x34, h34⟩ := fld_int (cs := l) (o := 34) Tryf.underlying3 cells3 hl' (by decide : 19 < 31) (hfs 19 _ rfl)
  obtain ⟨x35, h35⟩ := fld_bool (cs := l) (o := 35) Tryf.underlying4 cells4 hl' (by decide : 20 < 31) (hfs 20 _ rfl)
  obtain ⟨x36, h36⟩ := fld_bool (cs := l) (o := 36) Tryf.underlying4 cells4 hl' (by decide : 21 < 31) (hfs 21 _ rfl)
  obtain ⟨x37, h37⟩ := fld_bool (cs := l) (o := 37) Tryf.underlying4 cells4 hl' (by decide : 22 < 31) (hfs 22 _ rfl)
  obtain ⟨x38, h38⟩ := fld_int (cs := l) (o := 38) Tryf.underlying35 cells35 hl' (by decide : 23 < 31) (hfs 23 _ rfl)
  obtain ⟨x39, h39⟩ := fld_int (cs := l) (o := 39) Tryf.underlying35 cells35 hl' (by decide : 24 < 31) (hfs 24 _ rfl)
  obtain ⟨x40, h40, f40⟩ := fld_slice (cs := l) (o := 40) Tryf.underlying22 cells22 hl' (by decide : 25 < 31) (hfs 25 _ rfl)
  obtain ⟨x41, h41, f41⟩ := fld_slice (cs := l) (o := 41) Tryf.underlying22 cells22 hl' (by decide : 26 < 31) (hfs 26 _ rfl)
  obtain ⟨x42, h42⟩ := fld_string (cs := l) (o := 42) Tryf.underlying9 cells9 hl' (by decide : 27 < 31) (hfs 27 _ rfl)
  obtain ⟨x43, h43⟩ := fld_string (cs := l) (o := 43) Tryf.underlying9 cells9 hl' (by decide : 28 < 31) (hfs 28 _ rfl)
  obtain ⟨x44, h44⟩ := fld_bool (cs := l) (o := 44) Tryf.underlying4 cells4 hl' (by decide : 29 < 31) (hfs 29 _ rfl)
  obtain ⟨x45, h45⟩ := fld_int (cs := l) (o := 45) Tryf.underlying3 cells3 hl' (by decide : 30 < 31) (hfs 30 _ rfl)
  refine ⟨fun k => match k with | 0 => x0 | 3 => x3 | 4 => x4 | 7 => x7 | 13 => x13 | 14 => x14 | 16 => x16 | 17 => x17 | 18 => x18 | 19 => x19 | 20 => x20 | 21 => x21 | 22 => x22 | 23 => x23 | 24 => x24 | 25 => x25 | 26 => x26 | 27 => x27 | 28 => x28 | 29 => x29 | 30 => x30 | 31 => x31 | 32 => x32 | 33 => x33 | 38 => x38 | 39 => x39 | _ => 0, fun k => match k with | 10 => x10 | 35 => x35 | 36 => x36 | 37 => x37 | 44 => x44 | _ => false, ⟨x1, x2, x5, x6, x8, x9, x11, x12, x15, x34, x40, x41, x42, x43, x45⟩, ?_, ⟨f5, f6, f8, f15, f40, f41⟩⟩
  refine congrArg Value.agg (congrArg List.toArray ?_)
  refine List.ext_getElem? fun k => ?_
  match k with
  | 0 => exact h0
  | 1 => exact h1
  | 2 => exact h2
  | 3 => exact h3
  | 4 => exact h4
  | 5 => exact h5
  | 6 => exact h6
  | 7 => exact h7
  | 8 => exact h8
  | 9 => exact h9
  | 10 => exact h10
  | 11 => exact h11
  | 12 => exact h12
  | 13 => exact h13
  | 14 => exact h14
  | 15 => exact h15
  | 16 => exact h16
  | 17 => exact h17
  | 18 => exact h18
  | 19 => exact h19
  | 20 => exact h20
  | 21 => exact h21
  | 22 => exact h22
  | 23 => exact h23
  | 24 => exact h24
  | 25 => exact h25
  | 26 => exact h26
  | 27 => exact h27
  | 28 => exact h28
  | 29 => exact h29
  | 30 => exact h30
  | 31 => exact h31
  | 32 => exact h32
  | 33 => exact h33
  | 34 => exact h34
  | 35 => exact h35
  | 36 => exact h36
  | 37 => exact h37
  | 38 => exact h38
  | 39 => exact h39
  | 40 => exact h40
  | 41 => exact h41
  | 42 => exact h42
  | 43 => exact h43
  | 44 => exact h44
  | 45 => exact h45
  | k + 46 => rw [List.getElem?_eq_none (by omega), List.getElem?_eq_none (by simp)]
end Go.Proofs.Qxb6612340aFmt
