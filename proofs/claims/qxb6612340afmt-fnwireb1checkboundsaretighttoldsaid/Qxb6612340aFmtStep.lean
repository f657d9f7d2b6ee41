import Derived.Test.Qxb6612340aFmtLay
import Derived.Laws.CopyRow
namespace Go.Proofs.Qxb6612340aFmt
open Go.RowKit Go.Extern.Stop Go.Stop Go.Extern

/-- block g holds the row cs now; all else is as it was -/
structure Moved (g : Nat) (t : TypeId) (cs : Array Value) (w w' : World) : Prop where
  row : w'.heap[g]? = some (.cells cs t (0, 0))
  other : ∀ k, k ≠ g → w'.heap[k]? = w.heap[k]?
  size : w'.heap.size = w.heap.size
  tape : w'.tape = w.tape
  os : w'.os = w.os
  output : w'.output = w.output
theorem Moved.below {g t cs} {w w' : World} (h : Moved g t cs w w') {B : Nat} (hB : B ≤ g) : Below B w w' :=
  ⟨h.os, h.tape, h.output, Nat.le_of_eq h.size.symm, fun k hk => h.other k (by omega)⟩

variable {ops : Array Oper} {rest : List Oper} {op : Oper} {a : Act} {w : World} {Q : Exit → Act → World → Prop}

theorem run_loadVar_in (w : World) (g o : Nat) (ty t : TypeId) (cs : Array Value) (v : Value) (hg : w.heap[g]? = some (.cells cs t (0, 0))) (hv : cs[o]? = some v) (hf : (Tryf.prog.underlying ty).map (·.isRow) = some false) :
    (loadVar ty ⟨g, o, none⟩).run Tryf.prog w = .ok v w := by
  have hc : w.cell? ⟨g, o, none⟩ = some v := by rw [cell_of_row w g _ cs t (0, 0) hg]; exact hv
  have hagg : (isAgg ty).run Tryf.prog w = .ok false w := by
    unfold isAgg
    cases hq : Tryf.prog.underlying ty with
    | none => simp [hq] at hf
    | some d =>
      rw [Sem.run_bind, run_underlying hq w]
      cases d <;> simp_all [TypeDesc.isRow]
  simp [loadVar, Sem.run_bind, hagg, run_load, hc]

theorem wpList_load_in (hgd : op.guard = none) (ty : TypeId) (x : Operand) (ho : op.op = .load ty x) (g o : Nat) (hx : a.eval x = .pointer (some ⟨g, o, none⟩))
    (t : TypeId) (cs : Array Value) (hg : w.heap[g]? = some (.cells cs t (0, 0))) (v : Value) (hv : cs[o]? = some v) (hf : (Tryf.prog.underlying ty).map (·.isRow) = some false)
    (h : wpList Tryf.prog ops Q rest (a.put op.dst v) w) : wpList Tryf.prog ops Q (op :: rest) a w :=
  wpList_plain hgd fun _ hK => by
    unfold Oper.wp execOp
    simp only [ho, hx, Instr.loadAt, Instr.sureAddr, Sem.run_bind, Sem.run_pure, Result.andThen_ok, run_loadVar_in w g o ty t cs v hg hv hf]
    exact hK _ _ h

theorem wpList_store_in (hgd : op.guard = none) (ty : TypeId) (x y : Operand) (ho : op.op = .store ty x y) (g o : Nat) (hx : a.eval x = .pointer (some ⟨g, o, none⟩))
    (v : Value) (hy : a.eval y = v) (vs : Array Value) (hvs : v.cells = vs)
    (t : TypeId) (cs : Array Value) (hg : w.heap[g]? = some (.cells cs t (0, 0))) (hb : o + vs.size ≤ cs.size) (hi : (Tryf.prog.info? ty).map (·.size) = some vs.size) (h1 : vs.all (·.oneCell') = true)
    (cs' : Array Value) (hcs : (cs.toList.take o ++ vs.toList ++ cs.toList.drop (o + vs.size)).toArray = cs')
    (h : ∀ w', Moved g t cs' w w' → wpList Tryf.prog ops Q rest (a.put op.dst undef) w') : wpList Tryf.prog ops Q (op :: rest) a w := by
  have hrun := run_storeCells_at (P := Tryf.prog) g o t vs.toList 0 cs w hg (by simpa using hb) (fun v hv => (Array.all_eq_true_iff_forall_mem.1 h1) v (by simpa using hv))
  simp only [Nat.add_zero, Array.length_toList] at hrun
  rw [hcs] at hrun
  refine wpList_plain hgd fun K hK => ?_
  have hst : (storeVar ty ⟨g, o, none⟩ v).run Tryf.prog w = .ok () (w.setRow g cs') := by
    cases hq : Tryf.prog.info? ty with
    | none => simp [hq] at hi
    | some i =>
      have hs' : vs.size = i.size := by simp [hq] at hi; omega
      simp [storeVar, sizeOf, typeInfo, hq, hvs, hs', hrun]
  unfold Oper.wp execOp
  simp only [ho, hx, hy, Instr.storeAt, Instr.sureAddr, Sem.run_bind, Sem.run_pure, Result.andThen_ok, hst]
  exact hK _ _ (h _ ⟨setRow_heap w g cs cs' t (0, 0) hg, fun k hk => setRow_other w g k cs' hk, by simp, rfl, rfl, rfl⟩)

theorem range_of_row {w : World} {g o : Nat} {cs : Array Value} {t : TypeId} (hg : w.heap[g]? = some (.cells cs t (0, 0))) (vs : List Value) (h : ∀ j v, vs[j]? = some v → cs[o + j]? = some v) : w.rangeAt g o vs := by
  intro j v hv
  rw [cell_of_row w g _ cs t (0, 0) hg]
  exact h j v hv

theorem skew35 (x : Int) (w : World) : Calls Tryf.prog 35 #[.int .i64 x] w fun e w' => e = .returned (.int .i64 x) ∧ w' = w := by
  go_enter Tryf.func35, Tryf.ntmps35
  go_wp2
  go_ret
  exact ⟨rfl, rfl⟩

/-- the zero value's cells -/
def zeros : Array Value := lay (fun _ => 0) (fun _ => false) ⟨0, ⟨#[]⟩, ⟨none, 0, 0⟩, ⟨none, 0, 0⟩, ⟨none, 0, 0⟩, ⟨none, 0, 0⟩, false, 0, ⟨none, 0, 0⟩, 0, ⟨none, 0, 0⟩, ⟨none, 0, 0⟩, ⟨#[]⟩, ⟨#[]⟩, 0⟩
/-- the first k cells are laid -/
def mix (c : Array Value) (k : Nat) : Array Value := (c.toList.take k ++ zeros.toList.drop k).toArray
theorem info64 : (Tryf.prog.info? 64).map (·.size) = some 46 := by kernel_rfl
theorem info38 : (Tryf.prog.info? 38).map (·.size) = some 46 := by kernel_rfl

end Go.Proofs.Qxb6612340aFmt
