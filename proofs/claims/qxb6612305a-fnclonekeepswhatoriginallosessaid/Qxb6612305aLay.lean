import Derived.Test.Qxb6612305aAbsent
namespace Go.Proofs.Qxb6612305a
open Go.RowKit

theorem below_drewN {B : Nat} {a w : World} (h : Below B a w) : ∀ q, Below B a (w.drewN q) := fun _ => ⟨h.os, h.tape, h.output, h.size, h.block⟩

/-- WHAT HOLDS OF EVERY WORLD BEHIND THE CLONE: the two maps of the State and the two of its clone, the State's cells, the arguments; nothing older has turned. -/
structure Lay (w : World) (a i : Option Addr) (n ni : Nat) (nm im : Nat → ByteArray) (ct la : Int) (A L s : Nat) (DA DL : DataW Value) (w' : World) : Prop where
  mA : w'.ownsMap Try.prog 9 valElem A n DA
  mL : w'.ownsMap Try.prog 9 valElem L ni DL
  st : St w' s ct la A L
  nms : Strs w' a n nm
  ids : Strs w' i ni im
  bel : Below w.heap.size w w'
/-- .. and the clone's two maps -/
structure LayC (CA CL nA nL : Nat) (DA DL : DataW Value) (w' : World) : Prop where
  mA : w'.ownsMap Try.prog 9 valElem CA nA DA
  mL : w'.ownsMap Try.prog 9 valElem CL nL DL

variable {w w1 w2 : World} {a i : Option Addr} {n ni : Nat} {nm im : Nat → ByteArray} {ct la : Int} {A L s CA CL : Nat} {DA DL : DataW Value}
theorem Lay.below (h : Lay w a i n ni nm im ct la A L s DA DL w1) (hb : Below w1.heap.size w1 w2) : Lay w a i n ni nm im ct la A L s DA DL w2 :=
  ⟨ownsMap_below h.mA hb h.mA.lt, ownsMap_below h.mL hb h.mL.lt, h.st.below hb h.st.lt, h.nms.below hb, h.ids.below hb, h.bel.trans (hb.mono h.bel.size)⟩
theorem LayC.below {nA nL : Nat} (h : LayC CA CL nA nL DA DL w1) (hb : Below w1.heap.size w1 w2) : LayC CA CL nA nL DA DL w2 :=
  ⟨ownsMap_below h.mA hb h.mA.lt, ownsMap_below h.mL hb h.mL.lt⟩
theorem St.grown {w w' : World} {B s : Nat} {ct la : Int} {A L : Nat} (h : St w s ct la A L) (hg : w.grownBy w' (some B)) (hne : s ≠ B) : St w' s ct la A L :=
  ⟨hg.cell h.1 (by simpa using hne), hg.cell h.2.1 (by simpa using hne), hg.cell h.2.2.1 (by simpa using hne), hg.cell h.2.2.2 (by simpa using hne)⟩
/-- one of the clone's maps has turned -/
theorem Lay.grown {B : Nat} (h : Lay w a i n ni nm im ct la A L s DA DL w1) (hn0 : Strs w a n nm) (hi0 : Strs w i ni im) (hg : w1.grownBy w2 (some B)) (hA : A ≠ B) (hL : L ≠ B) (hs : s ≠ B) (hB : w.heap.size ≤ B) :
    Lay w a i n ni nm im ct la A L s DA DL w2 := by
  have hb : Below w.heap.size w w2 := h.bel.grown hg h.bel.size (fun j hj => by cases hj; exact hB)
  exact ⟨h.mA.kept hg (by simpa using hA), h.mL.kept hg (by simpa using hL), h.st.grown hg hs, hn0.below hb, hi0.below hb, hb⟩
theorem bel1 (w : World) (o : Obj) : Below w.heap.size w (w.alloc o) := (Below.refl _ _).alloc (Nat.le_refl _) _
theorem fields11' (ct la : Int) (A L s : Nat) (w : World) (h : St w s ct la A L) :
    Calls Try.prog 11 #[.pointer (some ⟨s, 0, none⟩)] w fun e w' => e = .returned (.tuple #[.int .i64 ct, .int .i64 la, .map (some A), .map (some L)]) ∧ Below w.heap.size w w' :=
  (fields11 ct la A L s w h.1 h.2.1 h.2.2.1 h.2.2.2).mono fun _ _ ⟨he, q, hq⟩ => ⟨he, hq ▸ below_drewN (Below.refl _ _) q⟩

theorem look_plainA {W : World} {b n : Nat} {D : DataW Value} {s t : ByteArray} {y : Int} (hown : W.ownsMap Try.prog 9 valElem b n D) (hs : s.size ≤ maxLen) (h : D.atKey (key s) (.held zA) = .held (assetV t y)) (q : Nat) :
    (Instr.lookup 27 (.map (some b)) (.string s) false).run Try.prog (W.drewN q) = .ok (.agg #[.string t, .int .i64 y]) (W.drewN q) := by
  have hown' : (W.drewN q).ownsMap Try.prog 9 valElem b n D := hown
  obtain ⟨v, ps, hrun, hv⟩ := hown'.lookup law9 Try.underlying27 (zero39 _) (zd := .held zA) (zp := []) rfl (keyOf9 hs)
  rw [h] at hv
  injection hv with hv
  injection hv with hv1 _
  injection hv1 with hv2
  subst hv2
  exact hrun
theorem look_plainL {W : World} {b n : Nat} {D : DataW Value} {s t y : ByteArray} (hown : W.ownsMap Try.prog 9 valElem b n D) (hs : s.size ≤ maxLen) (h : D.atKey (key s) (.held zL) = .held (loanV t y)) (q : Nat) :
    (Instr.lookup 28 (.map (some b)) (.string s) false).run Try.prog (W.drewN q) = .ok (.agg (lc t y)) (W.drewN q) := by
  have hown' : (W.drewN q).ownsMap Try.prog 9 valElem b n D := hown
  obtain ⟨v, ps, hrun, hv⟩ := hown'.lookup law9 Try.underlying28 (zero52' _) (zd := .held zL) (zp := []) rfl (keyOf9 hs)
  rw [h] at hv
  injection hv with hv
  injection hv with hv1 _
  injection hv1 with hv2
  subst hv2
  exact hrun

theorem yieldsIf_load_row {P : Program} {ops : Array Oper} {S : World → Prop} {op : Oper} {a : Act} (hw : Region.wanted op (yielded ops a.tmps) = true) (ty : TypeId) (x : Operand) (ho : op.op = .load ty x)
    (g : Nat) (hx : a.eval x = .pointer (some ⟨g, 0, none⟩)) (t : TypeId) (cs : Array Value) (fr : Nat × Nat) (d : TypeDesc) (hS : ∀ w, S w → w.heap[g]? = some (.cells cs t fr))
    (hu : P.underlying ty = some d) (hd : (match d with | .struct _ | .array _ _ => true | _ => false) = true) (hi : (P.info? ty).map (·.size) = some cs.size) : YieldsIf P ops S op (.agg cs) a :=
  .inl ⟨hw, fun w hw' => by
    unfold execOp
    simp only [ho, hx, Instr.loadAt, Instr.sureAddr, Sem.run_bind, Sem.run_pure, Result.andThen_ok, run_loadVar_row w g t ty cs fr d (hS w hw') hu hd hi]⟩

end Go.Proofs.Qxb6612305a
