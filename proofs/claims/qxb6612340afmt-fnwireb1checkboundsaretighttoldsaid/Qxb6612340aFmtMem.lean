import Derived.Test.Qxb6612340aFmtAcc
import Derived.Test.Qxb6612340aFmtZz
namespace Go.Proofs.Qxb6612340aFmt
open Go.RowKit Go.Extern.Stop Go.Stop Go.Extern
variable {ops : Array Oper} {rest : List Oper} {op : Oper} {a : Act} {w : World} {Q : Exit → Act → World → Prop}

theorem inf2 : (Tryf.prog.info? 2).map (·.size) = some 1 := by kernel_rfl
def Req.setNode (r : Req) (v : Int) : Req := { r with node := v }
theorem lay_setNode (n : Nat → Int) (b : Nat → Bool) (r : Req) (v : Int) : ((lay n b r).toList.take 1 ++ (#[.int .i64 v] : Array Value).toList ++ (lay n b r).toList.drop (1 + (#[.int .i64 v] : Array Value).size)).toArray = lay n b (r.setNode v) := rfl
theorem wpList_setNode (hgd : op.guard = none) (x y : Operand) (ho : op.op = .store 3 x y) (g : Nat) (hx : a.eval x = .pointer (some ⟨g, 1, none⟩)) (n : Nat → Int) (b : Nat → Bool) (r : Req) (v : Int) (hy : a.eval y = .int .i64 v)
    (hg : w.heap[g]? = some (.cells (lay n b r) 38 (0, 0))) (h : ∀ w', Moved g 38 (lay n b (r.setNode v)) w w' → wpList Tryf.prog ops Q rest (a.put op.dst undef) w') : wpList Tryf.prog ops Q (op :: rest) a w :=
  wpList_store_in hgd 3 x y ho g 1 hx (.int .i64 v) hy #[.int .i64 v] rfl 38 (lay n b r) hg (by rw [lay_size]; simp) inf3 (by simp [Value.oneCell']) _ (lay_setNode n b r v) h
def Req.setObj (r : Req) (v : ByteArray) : Req := { r with obj := v }
theorem lay_setObj (n : Nat → Int) (b : Nat → Bool) (r : Req) (v : ByteArray) : ((lay n b r).toList.take 2 ++ (#[.string v] : Array Value).toList ++ (lay n b r).toList.drop (2 + (#[.string v] : Array Value).size)).toArray = lay n b (r.setObj v) := rfl
theorem wpList_setObj (hgd : op.guard = none) (x y : Operand) (ho : op.op = .store 9 x y) (g : Nat) (hx : a.eval x = .pointer (some ⟨g, 2, none⟩)) (n : Nat → Int) (b : Nat → Bool) (r : Req) (v : ByteArray) (hy : a.eval y = .string v)
    (hg : w.heap[g]? = some (.cells (lay n b r) 38 (0, 0))) (h : ∀ w', Moved g 38 (lay n b (r.setObj v)) w w' → wpList Tryf.prog ops Q rest (a.put op.dst undef) w') : wpList Tryf.prog ops Q (op :: rest) a w :=
  wpList_store_in hgd 9 x y ho g 2 hx (.string v) hy #[.string v] rfl 38 (lay n b r) hg (by rw [lay_size]; simp) inf9 (by simp [Value.oneCell']) _ (lay_setObj n b r v) h
def Req.setVv (r : Req) (v : Sl) : Req := { r with vv := v }
theorem lay_setVv (n : Nat → Int) (b : Nat → Bool) (r : Req) (v : Sl) : ((lay n b r).toList.take 5 ++ (#[.slice v.a v.l v.c] : Array Value).toList ++ (lay n b r).toList.drop (5 + (#[.slice v.a v.l v.c] : Array Value).size)).toArray = lay n b (r.setVv v) := rfl
theorem wpList_setVv (hgd : op.guard = none) (x y : Operand) (ho : op.op = .store 22 x y) (g : Nat) (hx : a.eval x = .pointer (some ⟨g, 5, none⟩)) (n : Nat → Int) (b : Nat → Bool) (r : Req) (v : Sl) (hy : a.eval y = .slice v.a v.l v.c)
    (hg : w.heap[g]? = some (.cells (lay n b r) 38 (0, 0))) (h : ∀ w', Moved g 38 (lay n b (r.setVv v)) w w' → wpList Tryf.prog ops Q rest (a.put op.dst undef) w') : wpList Tryf.prog ops Q (op :: rest) a w :=
  wpList_store_in hgd 22 x y ho g 5 hx (.slice v.a v.l v.c) hy #[.slice v.a v.l v.c] rfl 38 (lay n b r) hg (by rw [lay_size]; simp) inf22 (by simp [Value.oneCell']) _ (lay_setVv n b r v) h
def Req.setVp (r : Req) (v : Sl) : Req := { r with vp := v }
theorem lay_setVp (n : Nat → Int) (b : Nat → Bool) (r : Req) (v : Sl) : ((lay n b r).toList.take 6 ++ (#[.slice v.a v.l v.c] : Array Value).toList ++ (lay n b r).toList.drop (6 + (#[.slice v.a v.l v.c] : Array Value).size)).toArray = lay n b (r.setVp v) := rfl
theorem wpList_setVp (hgd : op.guard = none) (x y : Operand) (ho : op.op = .store 22 x y) (g : Nat) (hx : a.eval x = .pointer (some ⟨g, 6, none⟩)) (n : Nat → Int) (b : Nat → Bool) (r : Req) (v : Sl) (hy : a.eval y = .slice v.a v.l v.c)
    (hg : w.heap[g]? = some (.cells (lay n b r) 38 (0, 0))) (h : ∀ w', Moved g 38 (lay n b (r.setVp v)) w w' → wpList Tryf.prog ops Q rest (a.put op.dst undef) w') : wpList Tryf.prog ops Q (op :: rest) a w :=
  wpList_store_in hgd 22 x y ho g 6 hx (.slice v.a v.l v.c) hy #[.slice v.a v.l v.c] rfl 38 (lay n b r) hg (by rw [lay_size]; simp) inf22 (by simp [Value.oneCell']) _ (lay_setVp n b r v) h
def Req.setVc (r : Req) (v : Sl) : Req := { r with vc := v }
theorem lay_setVc (n : Nat → Int) (b : Nat → Bool) (r : Req) (v : Sl) : ((lay n b r).toList.take 8 ++ (#[.slice v.a v.l v.c] : Array Value).toList ++ (lay n b r).toList.drop (8 + (#[.slice v.a v.l v.c] : Array Value).size)).toArray = lay n b (r.setVc v) := rfl
theorem wpList_setVc (hgd : op.guard = none) (x y : Operand) (ho : op.op = .store 22 x y) (g : Nat) (hx : a.eval x = .pointer (some ⟨g, 8, none⟩)) (n : Nat → Int) (b : Nat → Bool) (r : Req) (v : Sl) (hy : a.eval y = .slice v.a v.l v.c)
    (hg : w.heap[g]? = some (.cells (lay n b r) 38 (0, 0))) (h : ∀ w', Moved g 38 (lay n b (r.setVc v)) w w' → wpList Tryf.prog ops Q rest (a.put op.dst undef) w') : wpList Tryf.prog ops Q (op :: rest) a w :=
  wpList_store_in hgd 22 x y ho g 8 hx (.slice v.a v.l v.c) hy #[.slice v.a v.l v.c] rfl 38 (lay n b r) hg (by rw [lay_size]; simp) inf22 (by simp [Value.oneCell']) _ (lay_setVc n b r v) h
def Req.setClk (r : Req) (v : Bool) : Req := { r with clk := v }
theorem lay_setClk (n : Nat → Int) (b : Nat → Bool) (r : Req) (v : Bool) : ((lay n b r).toList.take 11 ++ (#[.bool v] : Array Value).toList ++ (lay n b r).toList.drop (11 + (#[.bool v] : Array Value).size)).toArray = lay n b (r.setClk v) := rfl
theorem wpList_setClk (hgd : op.guard = none) (x y : Operand) (ho : op.op = .store 4 x y) (g : Nat) (hx : a.eval x = .pointer (some ⟨g, 11, none⟩)) (n : Nat → Int) (b : Nat → Bool) (r : Req) (v : Bool) (hy : a.eval y = .bool v)
    (hg : w.heap[g]? = some (.cells (lay n b r) 38 (0, 0))) (h : ∀ w', Moved g 38 (lay n b (r.setClk v)) w w' → wpList Tryf.prog ops Q rest (a.put op.dst undef) w') : wpList Tryf.prog ops Q (op :: rest) a w :=
  wpList_store_in hgd 4 x y ho g 11 hx (.bool v) hy #[.bool v] rfl 38 (lay n b r) hg (by rw [lay_size]; simp) inf4 (by simp [Value.oneCell']) _ (lay_setClk n b r v) h
def Req.setSkew (r : Req) (v : Int) : Req := { r with skew := v }
theorem lay_setSkew (n : Nat → Int) (b : Nat → Bool) (r : Req) (v : Int) : ((lay n b r).toList.take 12 ++ (#[.int .i64 v] : Array Value).toList ++ (lay n b r).toList.drop (12 + (#[.int .i64 v] : Array Value).size)).toArray = lay n b (r.setSkew v) := rfl
theorem wpList_setSkew (hgd : op.guard = none) (x y : Operand) (ho : op.op = .store 2 x y) (g : Nat) (hx : a.eval x = .pointer (some ⟨g, 12, none⟩)) (n : Nat → Int) (b : Nat → Bool) (r : Req) (v : Int) (hy : a.eval y = .int .i64 v)
    (hg : w.heap[g]? = some (.cells (lay n b r) 38 (0, 0))) (h : ∀ w', Moved g 38 (lay n b (r.setSkew v)) w w' → wpList Tryf.prog ops Q rest (a.put op.dst undef) w') : wpList Tryf.prog ops Q (op :: rest) a w :=
  wpList_store_in hgd 2 x y ho g 12 hx (.int .i64 v) hy #[.int .i64 v] rfl 38 (lay n b r) hg (by rw [lay_size]; simp) inf2 (by simp [Value.oneCell']) _ (lay_setSkew n b r v) h
def Req.setSv (r : Req) (v : Sl) : Req := { r with sv := v }
theorem lay_setSv (n : Nat → Int) (b : Nat → Bool) (r : Req) (v : Sl) : ((lay n b r).toList.take 15 ++ (#[.slice v.a v.l v.c] : Array Value).toList ++ (lay n b r).toList.drop (15 + (#[.slice v.a v.l v.c] : Array Value).size)).toArray = lay n b (r.setSv v) := rfl
theorem wpList_setSv (hgd : op.guard = none) (x y : Operand) (ho : op.op = .store 22 x y) (g : Nat) (hx : a.eval x = .pointer (some ⟨g, 15, none⟩)) (n : Nat → Int) (b : Nat → Bool) (r : Req) (v : Sl) (hy : a.eval y = .slice v.a v.l v.c)
    (hg : w.heap[g]? = some (.cells (lay n b r) 38 (0, 0))) (h : ∀ w', Moved g 38 (lay n b (r.setSv v)) w w' → wpList Tryf.prog ops Q rest (a.put op.dst undef) w') : wpList Tryf.prog ops Q (op :: rest) a w :=
  wpList_store_in hgd 22 x y ho g 15 hx (.slice v.a v.l v.c) hy #[.slice v.a v.l v.c] rfl 38 (lay n b r) hg (by rw [lay_size]; simp) inf22 (by simp [Value.oneCell']) _ (lay_setSv n b r v) h
def Req.setDepth (r : Req) (v : Int) : Req := { r with depth := v }
theorem lay_setDepth (n : Nat → Int) (b : Nat → Bool) (r : Req) (v : Int) : ((lay n b r).toList.take 34 ++ (#[.int .i64 v] : Array Value).toList ++ (lay n b r).toList.drop (34 + (#[.int .i64 v] : Array Value).size)).toArray = lay n b (r.setDepth v) := rfl
theorem wpList_setDepth (hgd : op.guard = none) (x y : Operand) (ho : op.op = .store 3 x y) (g : Nat) (hx : a.eval x = .pointer (some ⟨g, 34, none⟩)) (n : Nat → Int) (b : Nat → Bool) (r : Req) (v : Int) (hy : a.eval y = .int .i64 v)
    (hg : w.heap[g]? = some (.cells (lay n b r) 38 (0, 0))) (h : ∀ w', Moved g 38 (lay n b (r.setDepth v)) w w' → wpList Tryf.prog ops Q rest (a.put op.dst undef) w') : wpList Tryf.prog ops Q (op :: rest) a w :=
  wpList_store_in hgd 3 x y ho g 34 hx (.int .i64 v) hy #[.int .i64 v] rfl 38 (lay n b r) hg (by rw [lay_size]; simp) inf3 (by simp [Value.oneCell']) _ (lay_setDepth n b r v) h
def Req.setHv (r : Req) (v : Sl) : Req := { r with hv := v }
theorem lay_setHv (n : Nat → Int) (b : Nat → Bool) (r : Req) (v : Sl) : ((lay n b r).toList.take 40 ++ (#[.slice v.a v.l v.c] : Array Value).toList ++ (lay n b r).toList.drop (40 + (#[.slice v.a v.l v.c] : Array Value).size)).toArray = lay n b (r.setHv v) := rfl
theorem wpList_setHv (hgd : op.guard = none) (x y : Operand) (ho : op.op = .store 22 x y) (g : Nat) (hx : a.eval x = .pointer (some ⟨g, 40, none⟩)) (n : Nat → Int) (b : Nat → Bool) (r : Req) (v : Sl) (hy : a.eval y = .slice v.a v.l v.c)
    (hg : w.heap[g]? = some (.cells (lay n b r) 38 (0, 0))) (h : ∀ w', Moved g 38 (lay n b (r.setHv v)) w w' → wpList Tryf.prog ops Q rest (a.put op.dst undef) w') : wpList Tryf.prog ops Q (op :: rest) a w :=
  wpList_store_in hgd 22 x y ho g 40 hx (.slice v.a v.l v.c) hy #[.slice v.a v.l v.c] rfl 38 (lay n b r) hg (by rw [lay_size]; simp) inf22 (by simp [Value.oneCell']) _ (lay_setHv n b r v) h
def Req.setPa (r : Req) (v : Sl) : Req := { r with pa := v }
theorem lay_setPa (n : Nat → Int) (b : Nat → Bool) (r : Req) (v : Sl) : ((lay n b r).toList.take 41 ++ (#[.slice v.a v.l v.c] : Array Value).toList ++ (lay n b r).toList.drop (41 + (#[.slice v.a v.l v.c] : Array Value).size)).toArray = lay n b (r.setPa v) := rfl
theorem wpList_setPa (hgd : op.guard = none) (x y : Operand) (ho : op.op = .store 22 x y) (g : Nat) (hx : a.eval x = .pointer (some ⟨g, 41, none⟩)) (n : Nat → Int) (b : Nat → Bool) (r : Req) (v : Sl) (hy : a.eval y = .slice v.a v.l v.c)
    (hg : w.heap[g]? = some (.cells (lay n b r) 38 (0, 0))) (h : ∀ w', Moved g 38 (lay n b (r.setPa v)) w w' → wpList Tryf.prog ops Q rest (a.put op.dst undef) w') : wpList Tryf.prog ops Q (op :: rest) a w :=
  wpList_store_in hgd 22 x y ho g 41 hx (.slice v.a v.l v.c) hy #[.slice v.a v.l v.c] rfl 38 (lay n b r) hg (by rw [lay_size]; simp) inf22 (by simp [Value.oneCell']) _ (lay_setPa n b r v) h
def Req.setPre (r : Req) (v : ByteArray) : Req := { r with pre := v }
theorem lay_setPre (n : Nat → Int) (b : Nat → Bool) (r : Req) (v : ByteArray) : ((lay n b r).toList.take 42 ++ (#[.string v] : Array Value).toList ++ (lay n b r).toList.drop (42 + (#[.string v] : Array Value).size)).toArray = lay n b (r.setPre v) := rfl
theorem wpList_setPre (hgd : op.guard = none) (x y : Operand) (ho : op.op = .store 9 x y) (g : Nat) (hx : a.eval x = .pointer (some ⟨g, 42, none⟩)) (n : Nat → Int) (b : Nat → Bool) (r : Req) (v : ByteArray) (hy : a.eval y = .string v)
    (hg : w.heap[g]? = some (.cells (lay n b r) 38 (0, 0))) (h : ∀ w', Moved g 38 (lay n b (r.setPre v)) w w' → wpList Tryf.prog ops Q rest (a.put op.dst undef) w') : wpList Tryf.prog ops Q (op :: rest) a w :=
  wpList_store_in hgd 9 x y ho g 42 hx (.string v) hy #[.string v] rfl 38 (lay n b r) hg (by rw [lay_size]; simp) inf9 (by simp [Value.oneCell']) _ (lay_setPre n b r v) h
def Req.setSt (r : Req) (v : ByteArray) : Req := { r with st := v }
theorem lay_setSt (n : Nat → Int) (b : Nat → Bool) (r : Req) (v : ByteArray) : ((lay n b r).toList.take 43 ++ (#[.string v] : Array Value).toList ++ (lay n b r).toList.drop (43 + (#[.string v] : Array Value).size)).toArray = lay n b (r.setSt v) := rfl
theorem wpList_setSt (hgd : op.guard = none) (x y : Operand) (ho : op.op = .store 9 x y) (g : Nat) (hx : a.eval x = .pointer (some ⟨g, 43, none⟩)) (n : Nat → Int) (b : Nat → Bool) (r : Req) (v : ByteArray) (hy : a.eval y = .string v)
    (hg : w.heap[g]? = some (.cells (lay n b r) 38 (0, 0))) (h : ∀ w', Moved g 38 (lay n b (r.setSt v)) w w' → wpList Tryf.prog ops Q rest (a.put op.dst undef) w') : wpList Tryf.prog ops Q (op :: rest) a w :=
  wpList_store_in hgd 9 x y ho g 43 hx (.string v) hy #[.string v] rfl 38 (lay n b r) hg (by rw [lay_size]; simp) inf9 (by simp [Value.oneCell']) _ (lay_setSt n b r v) h
def Req.setLim (r : Req) (v : Int) : Req := { r with lim := v }
theorem lay_setLim (n : Nat → Int) (b : Nat → Bool) (r : Req) (v : Int) : ((lay n b r).toList.take 45 ++ (#[.int .i64 v] : Array Value).toList ++ (lay n b r).toList.drop (45 + (#[.int .i64 v] : Array Value).size)).toArray = lay n b (r.setLim v) := rfl
theorem wpList_setLim (hgd : op.guard = none) (x y : Operand) (ho : op.op = .store 3 x y) (g : Nat) (hx : a.eval x = .pointer (some ⟨g, 45, none⟩)) (n : Nat → Int) (b : Nat → Bool) (r : Req) (v : Int) (hy : a.eval y = .int .i64 v)
    (hg : w.heap[g]? = some (.cells (lay n b r) 38 (0, 0))) (h : ∀ w', Moved g 38 (lay n b (r.setLim v)) w w' → wpList Tryf.prog ops Q rest (a.put op.dst undef) w') : wpList Tryf.prog ops Q (op :: rest) a w :=
  wpList_store_in hgd 3 x y ho g 45 hx (.int .i64 v) hy #[.int .i64 v] rfl 38 (lay n b r) hg (by rw [lay_size]; simp) inf3 (by simp [Value.oneCell']) _ (lay_setLim n b r v) h

/-- what stands at a place of the law: the world since the start, the two requests that it reads, fmt's answers -/
structure Mem (F : Interp) (n : Nat → Int) (b : Nat → Bool) (w0 : World) (g : Nat) (fr gr : Req) (w : World) : Prop where
  bel : Below w0.heap.size w0 w
  hf : w.heap[w0.heap.size]? = some (.cells (lay n b fr) 38 (0, 0))
  hg : w.heap[g]? = some (.cells (lay n b gr) 38 (0, 0))
  ans : F.answers w.tape
  lo : w0.heap.size < g
  hi : g < w.heap.size
theorem Mem.after {F : Interp} {n : Nat → Int} {b : Nat → Bool} {w0 : World} {g : Nat} {fr gr : Req} {w w' : World} (h : Mem F n b w0 g fr gr w) (hb : Below w.heap.size w w') : Mem F n b w0 g fr gr w' :=
  ⟨h.bel.trans (hb.mono (by have := h.lo; have := h.hi; omega)), (hb.block _ (by have := h.lo; have := h.hi; omega)).trans h.hf, (hb.block _ h.hi).trans h.hg, by rw [hb.tape]; exact h.ans, h.lo, Nat.lt_of_lt_of_le h.hi hb.size⟩
theorem Mem.put {F : Interp} {n : Nat → Int} {b : Nat → Bool} {w0 : World} {g : Nat} {fr gr gr' : Req} {w w' : World} (h : Mem F n b w0 g fr gr w) (hm : Moved g 38 (lay n b gr') w w') : Mem F n b w0 g fr gr' w' :=
  ⟨h.bel.trans (hm.below (Nat.le_of_lt h.lo)), (hm.other _ (Nat.ne_of_lt h.lo)).trans h.hf, hm.row, by rw [hm.tape]; exact h.ans, h.lo, by rw [hm.size]; exact h.hi⟩
/-- .. and a third one, at x -/
structure Mem3 (F : Interp) (n : Nat → Int) (b : Nat → Bool) (w0 : World) (g x : Nat) (fr gr xr : Req) (w : World) : Prop where
  mem : Mem F n b w0 g fr gr w
  hx : w.heap[x]? = some (.cells (lay n b xr) 38 (0, 0))
  lo : g < x
  hi : x < w.heap.size
theorem Mem3.after {F : Interp} {n : Nat → Int} {b : Nat → Bool} {w0 : World} {g x : Nat} {fr gr xr : Req} {w w' : World} (h : Mem3 F n b w0 g x fr gr xr w) (hb : Below w.heap.size w w') : Mem3 F n b w0 g x fr gr xr w' :=
  ⟨h.mem.after hb, (hb.block _ h.hi).trans h.hx, h.lo, Nat.lt_of_lt_of_le h.hi hb.size⟩
theorem Mem3.put {F : Interp} {n : Nat → Int} {b : Nat → Bool} {w0 : World} {g x : Nat} {fr gr xr xr' : Req} {w w' : World} (h : Mem3 F n b w0 g x fr gr xr w) (hm : Moved x 38 (lay n b xr') w w') : Mem3 F n b w0 g x fr gr xr' w' :=
  ⟨⟨h.mem.bel.trans (hm.below (by have := h.mem.lo; have := h.lo; omega)), (hm.other _ (by have := h.mem.lo; have := h.lo; omega)).trans h.mem.hf, (hm.other _ (Nat.ne_of_lt h.lo)).trans h.mem.hg, by rw [hm.tape]; exact h.mem.ans, h.mem.lo, by rw [hm.size]; exact h.mem.hi⟩, hm.row, h.lo, by rw [hm.size]; exact h.hi⟩
theorem Mem.new {F : Interp} {n : Nat → Int} {b : Nat → Bool} {w0 : World} {g : Nat} {fr gr xr : Req} {w w' : World} {z : Array Value} (h : Mem F n b w0 g fr gr w) (hm : Moved w.heap.size 38 (lay n b xr) (w.alloc (.cells z 38)) w') : Mem3 F n b w0 g w.heap.size fr gr xr w' := by
  have h1 : Mem F n b w0 g fr gr (w.alloc (.cells z 38)) := h.after ((Below.refl _ _).alloc (Nat.le_refl _) _)
  have hlo := h.lo
  have hhi := h.hi
  exact ⟨⟨h1.bel.trans (hm.below (by omega)), (hm.other _ (by omega)).trans h1.hf, (hm.other _ (by omega)).trans h1.hg, by rw [hm.tape]; exact h1.ans, h1.lo, by rw [hm.size]; exact h1.hi⟩, hm.row, hhi, by rw [hm.size]; simp⟩
end Go.Proofs.Qxb6612340aFmt
