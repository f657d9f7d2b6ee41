import Derived.Test.Qxb6612305aLay
import Derived.Deep.MidRow
import Derived.Laws.CopyRow
namespace Go.Proofs.Qxb6612305a
open Go.RowKit

/-! ### rows of structs that the law makes itself -/
theorem info39 : (Try.prog.info? 39).map (fun i => (i.zero, i.size, i.bytes)) = some (some zA, 2, 24) := by kernel_rfl
theorem info52b : (Try.prog.info? 52).map (fun i => (i.zero, i.size, i.bytes)) = some (some zL, 34, 296) := by kernel_rfl
theorem info39s : (Try.prog.info? 39).map (·.size) = some 2 := by kernel_rfl
def mkA (n : Nat) : Array Value := madeCells zA.cells (n * 2)
def mkL (n : Nat) : Array Value := madeCells zL.cells (n * 34)
theorem mkA_size (n : Nat) : (mkA n).size = n * 2 := size_madeCells _ _
theorem mkL_size (n : Nat) : (mkL n).size = n * 34 := size_madeCells _ _
theorem run_mkA (n : Nat) (hn : n ≤ 4096) (w : World) : (Instr.makeSlice 55 (.int .i64 (n : Int)) (.int .i64 (n : Int))).run Try.prog w = .ok (.slice (some ⟨w.heap.size, 0, none⟩) n n) (w.alloc (.cells (mkA n) 39)) := by
  obtain ⟨i, hi, hz0, hz1, hz2⟩ := info_parts info39
  have hr := run_make (P := Try.prog) w 55 39 i zA Try.underlying55 hi hz0 .i64 .i64 n n (by omega) (Int.le_refl _) (by rw [hz2]; omega) (by omega)
  rw [hz1] at hr
  simpa [mkA] using hr
theorem run_mkL (n : Nat) (hn : n ≤ 4096) (w : World) : (Instr.makeSlice 56 (.int .i64 (n : Int)) (.int .i64 (n : Int))).run Try.prog w = .ok (.slice (some ⟨w.heap.size, 0, none⟩) n n) (w.alloc (.cells (mkL n) 52)) := by
  obtain ⟨i, hi, hz0, hz1, hz2⟩ := info_parts info52b
  have hr := run_make (P := Try.prog) w 56 52 i zL Try.underlying56 hi hz0 .i64 .i64 n n (by omega) (Int.le_refl _) (by rw [hz2]; omega) (by omega)
  rw [hz1] at hr
  simpa [mkL] using hr

/-- block g is a row of n elements of m cells each, the first k of which are f 0, f 1, .. -/
def RowOf (w : World) (g : Nat) (t : TypeId) (m n : Nat) (f : Nat → Array Value) (k : Nat) : Prop :=
  ∃ cs : Array Value, w.heap[g]? = some (.cells cs t (0, 0)) ∧ cs.size = n * m ∧ ∀ j, j < k → ∀ r, r < m → cs[j * m + r]? = (f j)[r]?
theorem RowOf.below {w w' : World} {g m n k : Nat} {t : TypeId} {f : Nat → Array Value} {B : Nat} (h : RowOf w g t m n f k) (hb : Below B w w') (hlt : g < B) : RowOf w' g t m n f k := by
  obtain ⟨cs, h1, h2⟩ := h
  exact ⟨cs, (hb.block g hlt).trans h1, h2⟩
theorem RowOf.lt {w : World} {g m n k : Nat} {t : TypeId} {f : Nat → Array Value} (h : RowOf w g t m n f k) : g < w.heap.size := by
  obtain ⟨cs, h1, _⟩ := h
  exact (Array.getElem?_eq_some_iff.1 h1).1
theorem RowOf.grown {w w' : World} {g m n k B : Nat} {t : TypeId} {f : Nat → Array Value} (h : RowOf w g t m n f k) (hg : w.grownBy w' (some B)) (hne : g ≠ B) : RowOf w' g t m n f k := by
  have hlt := h.lt
  obtain ⟨cs, h1, h2⟩ := h
  exact ⟨cs, (hg.block g hlt (by simpa using hne)).trans h1, h2⟩
theorem RowOf.cell {w : World} {g m n k : Nat} {t : TypeId} {f : Nat → Array Value} (h : RowOf w g t m n f k) {j r : Nat} (hj : j < k) (hr : r < m) : w.cell? ⟨g, j * m + r, none⟩ = (f j)[r]? := by
  obtain ⟨cs, h1, _, h3⟩ := h
  rw [cell_of_row w g _ cs t (0, 0) h1]
  exact h3 j hj r hr
theorem RowOf.range {w : World} {g m n k : Nat} {t : TypeId} {f : Nat → Array Value} (h : RowOf w g t m n f k) {j : Nat} (hj : j < k) (hm : (f j).size = m) : w.rangeAt g (j * m) (f j).toList := by
  intro r v hv
  have hr : r < m := by have := (List.getElem?_eq_some_iff.1 hv).1; simpa [hm] using this
  rw [h.cell hj hr]
  simpa using hv
theorem RowOf.start {w : World} {g m n : Nat} {t : TypeId} (f : Nat → Array Value) {cs : Array Value} (h : w.heap[g]? = some (.cells cs t (0, 0))) (hs : cs.size = n * m) : RowOf w g t m n f 0 :=
  ⟨cs, h, hs, fun j hj => by omega⟩

/-- the k-th element is stored -/
theorem wpList_store_elem (w : World) {ops : Array Oper} {rest : List Oper} {o : Oper} {a : Act} {Q : Exit → Act → World → Prop} (hgd : o.guard = none) (ty : TypeId) (x y : Operand) (ho : o.op = .store ty x y)
    (g m n k : Nat) (f : Nat → Array Value) (hx : a.eval x = .pointer (some ⟨g, k * m, none⟩)) (hy : a.eval y = .agg (f k)) (hrow : RowOf w g ty m n f k) (hkn : k < n) (hfm : (f k).size = m)
    (hi : (Try.prog.info? ty).map (·.size) = some (f k).size) (h1 : (f k).all (·.oneCell') = true)
    (hK : ∀ w', RowOf w' g ty m n f (k + 1) → w.grownBy w' (some g) → wpList Try.prog ops Q rest (a.put o.dst undef) w') : wpList Try.prog ops Q (o :: rest) a w := by
  obtain ⟨cs, hg, hs, hc⟩ := hrow
  have hle : k * m + m ≤ n * m := by
    have : (k + 1) * m ≤ n * m := Nat.mul_le_mul_right m hkn
    rw [Nat.add_mul, Nat.one_mul] at this; exact this
  have hrun := run_storeCells_at (P := Try.prog) g (k * m) ty (f k).toList 0 cs w hg (by simp [hfm, hs]; exact hle) (fun v hv => (Array.all_eq_true_iff_forall_mem.1 h1) v (by simpa using hv))
  simp only [Nat.add_zero, Array.length_toList, hfm] at hrun
  generalize hrow' : (cs.toList.take (k * m) ++ (f k).toList ++ cs.toList.drop (k * m + m)).toArray = row at hrun
  have hget : ∀ q, row[q]? = if q < k * m then cs[q]? else if q < k * m + m then (f k)[q - k * m]? else cs[q]? := by
    intro q
    rw [← hrow']
    simp only [List.getElem?_toArray, List.append_assoc, List.getElem?_append, List.length_take, Array.length_toList, hfm, hs, List.getElem?_take, List.getElem?_drop]
    have e1 : min (k * m) (n * m) = k * m := by omega
    rw [e1]
    by_cases h1 : q < k * m
    · simp [h1]
    · by_cases h2 : q < k * m + m
      · have : q - k * m < m := by omega
        simp [h1, h2, this]
      · have : ¬ q - k * m < m := by omega
        simp [h1, h2, this]
        congr 1; omega
  have hrs : row.size = n * m := by
    rw [← hrow']
    simp only [List.size_toArray, List.length_append, List.length_take, List.length_drop, Array.length_toList, hfm, hs]; omega
  refine wpList_plain hgd fun K hK' => ?_
  have hst : (storeVar ty ⟨g, k * m, none⟩ (.agg (f k))).run Try.prog w = .ok () (w.setRow g row) := by
    cases hq : Try.prog.info? ty with
    | none => simp [hq] at hi
    | some i =>
      have hs' : (f k).size = i.size := by simp [hq] at hi; omega
      simp [storeVar, sizeOf, typeInfo, hq, Value.cells, hs', hrun]
  unfold Oper.wp execOp
  simp only [ho, hx, hy, Instr.storeAt, Instr.sureAddr, Sem.run_bind, Sem.run_pure, Result.andThen_ok, hst]
  refine hK' _ _ (hK _ ⟨row, setRow_heap w g cs row ty (0, 0) hg, hrs, ?_⟩ ⟨rfl, rfl, rfl, by simp, fun q _ hq => setRow_other w g q row (fun e => hq (by rw [e]))⟩)
  intro j hj r hr
  rw [hget]
  by_cases e : j = k
  · subst e
    rw [if_neg (by omega), if_pos (by omega), Nat.add_sub_cancel_left]
  · have hjk : j < k := by omega
    have : (j + 1) * m ≤ k * m := Nat.mul_le_mul_right m hjk
    rw [Nat.add_mul, Nat.one_mul] at this
    rw [if_pos (by omega)]
    exact hc j hjk r hr
end Go.Proofs.Qxb6612305a
