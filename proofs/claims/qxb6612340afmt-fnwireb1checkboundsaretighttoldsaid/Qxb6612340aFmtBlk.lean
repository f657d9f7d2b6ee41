import Derived.Test.Qxb6612340aFmtMem
import Derived.Deep.RegionHeld
namespace Go.Proofs.Qxb6612340aFmt
open Go.RowKit Go.Extern.Stop Go.Stop Go.Extern

def seqDrop : Nat → Code → Code
  | 0, c => c
  | k + 1, .seq _ c => seqDrop k c
  | _ + 1, c => c
/-- what function 7 still has to do behind its first k statements -/
noncomputable def tailOf (k : Nat) : Code := match Tryf.f7.body with
  | some c => seqDrop k c
  | none => .skip

theorem eval_put_same {a : Act} {s : Nat} (v : Value) (h : s < a.tmps.size) : (a.put (some s) v).eval (.tmp s) = v := by
  simp [Act.put, Act.eval, Array.getD_eq_getD_getElem?, h]
theorem eval_put_ne {a : Act} {s t : Nat} (v : Value) (h : t ≠ s) : (a.put (some s) v).eval (.tmp t) = a.eval (.tmp t) := by
  simp [Act.put, Act.eval, Array.getD_eq_getD_getElem?, Array.getElem?_setIfInBounds_ne (Ne.symm h)]

/-- function 7's frame: slot 3 points to the request at g -/
structure Fr0 (g : Nat) (a : Act) : Prop where
  size : a.tmps.size = 189
  t3 : a.eval (.tmp 3) = .pointer (some ⟨g, 0, none⟩)
  df : a.defers = []
theorem Fr0.put {g : Nat} {a : Act} (h : Fr0 g a) {s : Nat} (v : Value) (h3 : 3 ≠ s) : Fr0 g (a.put (some s) v) :=
  ⟨by rw [← h.size]; simp [Act.put], (eval_put_ne v h3).trans h.t3, h.df⟩
theorem Fr0.same {g : Nat} {a : Act} (h : Fr0 g a) {s : Nat} (v : Value) (hs : s < 189) : (a.put (some s) v).eval (.tmp s) = v :=
  eval_put_same v (by rw [h.size]; exact hs)
/-- .. and slot p to the one at x -/
structure Fr (p g x : Nat) (a : Act) : Prop where
  fr : Fr0 g a
  tp : a.eval (.tmp p) = .pointer (some ⟨x, 0, none⟩)
theorem Fr.put {p g x : Nat} {a : Act} (h : Fr p g x a) {s : Nat} (v : Value) (h3 : 3 ≠ s) (hp : p ≠ s) : Fr p g x (a.put (some s) v) :=
  ⟨h.fr.put v h3, (eval_put_ne v hp).trans h.tp⟩
theorem Fr.same {p g x : Nat} {a : Act} (h : Fr p g x a) {s : Nat} (v : Value) (hs : s < 189) : (a.put (some s) v).eval (.tmp s) = v := h.fr.same v hs

variable {ops : Array Oper} {rest : List Oper} {op : Oper} {a : Act} {w : World} {Q : Exit → Act → World → Prop}

/-- the operation yields v and leaves the world -/
def Gives (op : Oper) (v : Value) (a : Act) (w : World) : Prop := (execOp a.eval op).run Tryf.prog w = .ok (.value v) w
theorem wpList_gives {v : Value} (hgd : op.guard = none) (hg : Gives op v a w) (h : wpList Tryf.prog ops Q rest (a.put op.dst v) w) : wpList Tryf.prog ops Q (op :: rest) a w :=
  wpList_plain hgd fun _ hK => by
    unfold Oper.wp
    rw [hg]
    exact hK _ _ h

/-- where field k of type 38 lies -/
noncomputable def offOf (k : Nat) : Option Nat := match Tryf.prog.underlying 38 with
  | some (.struct fs) => (fs[k]?).bind fun f => (Tryf.prog.info? f.type).bind fun i => if i.size = 0 then none else some f.offset
  | _ => none

theorem gives_field (k o : Nat) (x : Operand) (ho : op.op = .fieldAddr 38 x k) (g : Nat) (hx : a.eval x = .pointer (some ⟨g, 0, none⟩)) (hk : offOf k = some o) (h0 : o ≠ 0) :
    Gives op (.pointer (some ⟨g, o, none⟩)) a w := by
  unfold offOf at hk
  split at hk
  · rename_i fs hu
    cases hf : fs[k]? with
    | none => rw [hf] at hk; cases hk
    | some f =>
      rw [hf] at hk
      cases hi : Tryf.prog.info? f.type with
      | none => simp [hi] at hk
      | some i =>
        simp only [Option.bind_some, hi] at hk
        split at hk
        · cases hk
        · rename_i hz
          cases hk
          unfold Gives execOp
          simp only [ho, hx, Instr.fieldAt, Instr.sureAddr, fieldPlace, Sem.run_bind, Sem.run_pure, Result.andThen_ok, run_underlying hu, hf, sizeOf, typeInfo]
          simp [hi, hz, Addr.add, h0, go_sem]
  · cases hk
theorem gives_assign (x : Operand) (ho : op.op = .assign x) (v : Value) (hx : a.eval x = v) : Gives op v a w := by
  unfold Gives execOp
  simp only [ho, hx]
  simp [go_sem]
theorem gives_not (x : Operand) (ty : TypeId) (ho : op.op = .unOp .not ty x) (t : Bool) (hx : a.eval x = .bool t) : Gives op (.bool !t) a w := by
  unfold Gives execOp
  simp only [ho, hx]
  simp [go_sem, Op.unary]
theorem gives_cat (x y : Operand) (ho : op.op = .binOp .add 9 x y 9) (s t : ByteArray) (hx : a.eval x = .string s) (hy : a.eval y = .string t) (hroom : s.size + t.size ≤ 9223372036854775807) : Gives op (.string (s ++ t)) a w := by
  unfold Gives execOp
  simp only [ho, hx, hy]
  simp [go_sem]
  omega
theorem gives_in (ty : TypeId) (x : Operand) (ho : op.op = .load ty x) (g o : Nat) (hx : a.eval x = .pointer (some ⟨g, o, none⟩))
    (t : TypeId) (cs : Array Value) (hg : w.heap[g]? = some (.cells cs t (0, 0))) (v : Value) (hv : cs[o]? = some v) (hf : (Tryf.prog.underlying ty).map (·.isRow) = some false) : Gives op v a w := by
  unfold Gives execOp
  simp only [ho, hx, Instr.loadAt, Instr.sureAddr, Sem.run_bind, Sem.run_pure, Result.andThen_ok, run_loadVar_in w g o ty t cs v hg hv hf]

/-- function f is Go's own text -/
noncomputable def isGo (f : FuncId) : Bool := match Tryf.prog.funcs[f]? with
  | some fn => fn.name != "runtime.NumGoroutine" && fn.body.isSome
  | none => false
theorem run_go {f : FuncId} (h : isGo f = true) (vs : Array Value) (w : World) : (callFunc f vs).run Tryf.prog w = .ok (.enter f vs) w := by
  unfold isGo at h
  split at h
  · rename_i fn hf
    simp only [Bool.and_eq_true] at h
    have h1 : fn.name ≠ "runtime.NumGoroutine" := by simpa using h.1
    have h2 : fn.body ≠ none := by intro e; rw [e] at h; simp at h
    simp [callFunc, go_sem, hf, h1, h2]
  · cases h
theorem isGo22 : isGo 22 = true := by kernel_rfl
theorem isGo24 : isGo 24 = true := by kernel_rfl
theorem isGo25 : isGo 25 = true := by kernel_rfl
theorem isGo26 : isGo 26 = true := by kernel_rfl

theorem enters (f : FuncId) (xs : Array Operand) (ts : Array TypeId) (ho : op.op = .call ⟨.value (.func f), xs, ts⟩) (vs : Array Value) (hxs : xs.map a.eval = vs) (hgo : isGo f = true) :
    (execOp a.eval op).run Tryf.prog w = .ok (.enter f vs) w := by
  unfold execOp
  simp [ho, resolve, hxs, Deferred.ofValue, go_sem, run_go hgo]
theorem oper_callF {R : Ending → World → Prop} {K : Act → World → Prop} (f : FuncId) (xs : Array Operand) (ts : Array TypeId) (ho : op.op = .call ⟨.value (.func f), xs, ts⟩) (vs : Array Value) (hxs : xs.map a.eval = vs)
    (hgo : isGo f = true) (hc : Calls Tryf.prog f vs w R) (h : ∀ e w', R e w' → ∃ v, e = .returned v ∧ K (a.put op.dst v) w') : op.wp Tryf.prog a w K Q := by
  unfold Oper.wp
  rw [enters f xs ts ho vs hxs hgo, Oper.upon_enter]
  refine hc.mono ?_
  intro e w' he
  obtain ⟨v, rfl, hv⟩ := h e w' he
  exact hv
theorem wpList_callF {R : Ending → World → Prop} (hgd : op.guard = none) (f : FuncId) (xs : Array Operand) (ts : Array TypeId) (ho : op.op = .call ⟨.value (.func f), xs, ts⟩) (vs : Array Value) (hxs : xs.map a.eval = vs)
    (hgo : isGo f = true) (hc : Calls Tryf.prog f vs w R) (h : ∀ e w', R e w' → ∃ v, e = .returned v ∧ wpList Tryf.prog ops Q rest (a.put op.dst v) w') : wpList Tryf.prog ops Q (op :: rest) a w :=
  wpList_plain hgd fun _ hK => oper_callF f xs ts ho vs hxs hgo hc fun e w' he => by
    obtain ⟨v, h1, h2⟩ := h e w' he
    exact ⟨v, h1, hK _ _ h2⟩

theorem wpList_alloc38 (hgd : op.guard = none) (ho : op.op = .alloc 38) (h : wpList Tryf.prog ops Q rest (a.put op.dst (.pointer (some ⟨w.heap.size, 0, none⟩))) (w.alloc (.cells zeros 38))) : wpList Tryf.prog ops Q (op :: rest) a w :=
  wpList_plain hgd fun _ hK => by
    unfold Oper.wp execOp
    simp [ho, go_sem]
    exact hK _ _ h

/-- a store of v, of type ty, at offset o of a request, turns it by f -/
def SetLaw (ty : TypeId) (o : Nat) (v : Value) (f : Req → Req) : Prop :=
  ∀ {ops : Array Oper} {rest : List Oper} {op : Oper} {a : Act} {w : World} {Q : Exit → Act → World → Prop} (_ : op.guard = none) (x y : Operand) (_ : op.op = .store ty x y) (g : Nat) (_ : a.eval x = .pointer (some ⟨g, o, none⟩)) (n : Nat → Int) (b : Nat → Bool) (r : Req) (_ : a.eval y = v)
    (_ : w.heap[g]? = some (.cells (lay n b r) 38 (0, 0))) (_ : ∀ w', Moved g 38 (lay n b (f r)) w w' → wpList Tryf.prog ops Q rest (a.put op.dst undef) w'), wpList Tryf.prog ops Q (op :: rest) a w
theorem lawNode (v : Int) : SetLaw 3 1 (.int .i64 v) (·.setNode v) := fun hgd x y ho g hx n b r hy hg h => wpList_setNode hgd x y ho g hx n b r v hy hg h
theorem lawObj (v : ByteArray) : SetLaw 9 2 (.string v) (·.setObj v) := fun hgd x y ho g hx n b r hy hg h => wpList_setObj hgd x y ho g hx n b r v hy hg h
theorem lawVv (v : Sl) : SetLaw 22 5 (.slice v.a v.l v.c) (·.setVv v) := fun hgd x y ho g hx n b r hy hg h => wpList_setVv hgd x y ho g hx n b r v hy hg h
theorem lawVp (v : Sl) : SetLaw 22 6 (.slice v.a v.l v.c) (·.setVp v) := fun hgd x y ho g hx n b r hy hg h => wpList_setVp hgd x y ho g hx n b r v hy hg h
theorem lawVc (v : Sl) : SetLaw 22 8 (.slice v.a v.l v.c) (·.setVc v) := fun hgd x y ho g hx n b r hy hg h => wpList_setVc hgd x y ho g hx n b r v hy hg h
theorem lawClk (v : Bool) : SetLaw 4 11 (.bool v) (·.setClk v) := fun hgd x y ho g hx n b r hy hg h => wpList_setClk hgd x y ho g hx n b r v hy hg h
theorem lawSkew (v : Int) : SetLaw 2 12 (.int .i64 v) (·.setSkew v) := fun hgd x y ho g hx n b r hy hg h => wpList_setSkew hgd x y ho g hx n b r v hy hg h
theorem lawSv (v : Sl) : SetLaw 22 15 (.slice v.a v.l v.c) (·.setSv v) := fun hgd x y ho g hx n b r hy hg h => wpList_setSv hgd x y ho g hx n b r v hy hg h
theorem lawDepth (v : Int) : SetLaw 3 34 (.int .i64 v) (·.setDepth v) := fun hgd x y ho g hx n b r hy hg h => wpList_setDepth hgd x y ho g hx n b r v hy hg h
theorem lawHv (v : Sl) : SetLaw 22 40 (.slice v.a v.l v.c) (·.setHv v) := fun hgd x y ho g hx n b r hy hg h => wpList_setHv hgd x y ho g hx n b r v hy hg h
theorem lawPa (v : Sl) : SetLaw 22 41 (.slice v.a v.l v.c) (·.setPa v) := fun hgd x y ho g hx n b r hy hg h => wpList_setPa hgd x y ho g hx n b r v hy hg h
theorem lawPre (v : ByteArray) : SetLaw 9 42 (.string v) (·.setPre v) := fun hgd x y ho g hx n b r hy hg h => wpList_setPre hgd x y ho g hx n b r v hy hg h
theorem lawSt (v : ByteArray) : SetLaw 9 43 (.string v) (·.setSt v) := fun hgd x y ho g hx n b r hy hg h => wpList_setSt hgd x y ho g hx n b r v hy hg h
theorem lawLim (v : Int) : SetLaw 3 45 (.int .i64 v) (·.setLim v) := fun hgd x y ho g hx n b r hy hg h => wpList_setLim hgd x y ho g hx n b r v hy hg h
theorem off1 : offOf 1 = some 1 := by kernel_rfl
theorem off2 : offOf 2 = some 2 := by kernel_rfl
theorem off5 : offOf 5 = some 5 := by kernel_rfl
theorem off6 : offOf 6 = some 6 := by kernel_rfl
theorem off8 : offOf 8 = some 8 := by kernel_rfl
theorem off11 : offOf 11 = some 11 := by kernel_rfl
theorem off12 : offOf 12 = some 12 := by kernel_rfl
theorem off15 : offOf 15 = some 15 := by kernel_rfl
theorem off19 : offOf 19 = some 34 := by kernel_rfl
theorem off25 : offOf 25 = some 40 := by kernel_rfl
theorem off26 : offOf 26 = some 41 := by kernel_rfl
theorem off27 : offOf 27 = some 42 := by kernel_rfl
theorem off28 : offOf 28 = some 43 := by kernel_rfl
theorem off30 : offOf 30 = some 45 := by kernel_rfl

section
variable {F : Interp} {n : Nat → Int} {b : Nat → Bool} {w0 : World} {p g x : Nat} {r G X : Req} {K : Act → World → Prop} {i s s1 s2 k o ty t1 t2 t3 : Nat} {p1 p2 p3 : String} {e1 e2 e3 : Array Edge} {v : Value} {f : Req → Req}

/-- x.f = c -/
theorem set_const (law : SetLaw ty o v f) (hoff : offOf k = some o) (h0 : o ≠ 0) (hs : s < 189 ∧ 3 ≠ s ∧ p ≠ s) (hfr : Fr p g x a) (hx : Mem3 F n b w0 g x r G X w)
    (hK : ∀ a' w', Fr p g x a' → Mem3 F n b w0 g x r G (f X) w' → K a' w') :
    (Code.region i #[⟨some s, .fieldAddr 38 (.tmp p) k, t1, p1, e1, none⟩, ⟨none, .store ty (.tmp s) (.const v), t2, p2, e2, none⟩] false).wp Tryf.prog (Exit.then K Q) a w := by
  refine wp_region_lit ?_
  refine wpList_gives rfl (gives_field k o _ rfl x hfr.tp hoff h0) ?_
  refine law rfl _ _ rfl x (hfr.same _ hs.1) n b X rfl hx.hx ?_
  intro w' hMv
  exact hK _ _ (hfr.put _ hs.2.1 hs.2.2) (hx.put hMv)

/-- x.f = fill(c) -/
theorem set_call {α : Type} {fn : FuncId} {ts : Array TypeId} {c : Value} (val : α → Value) (fs : α → Req → Req) (good : α → Prop) (law : ∀ y, SetLaw ty o (val y) (fs y)) (hgo : isGo fn = true)
    (hc : ∀ w, Calls Tryf.prog fn #[c] w fun e w' => (∃ y, e = .returned (val y) ∧ good y) ∧ Below w.heap.size w w')
    (hoff : offOf k = some o) (h0 : o ≠ 0) (hs1 : s1 < 189 ∧ 3 ≠ s1 ∧ p ≠ s1) (hs2 : s2 < 189 ∧ 3 ≠ s2 ∧ p ≠ s2) (hs : s1 ≠ s2) (hfr : Fr p g x a) (hx : Mem3 F n b w0 g x r G X w)
    (hK : ∀ a' w' y, good y → Fr p g x a' → Mem3 F n b w0 g x r G (fs y X) w' → K a' w') :
    (Code.region i #[⟨some s1, .call ⟨.value (.func fn), #[.const c], ts⟩, t1, p1, e1, none⟩, ⟨some s2, .fieldAddr 38 (.tmp p) k, t2, p2, e2, none⟩, ⟨none, .store ty (.tmp s2) (.tmp s1), t3, p3, e3, none⟩] false).wp Tryf.prog (Exit.then K Q) a w := by
  refine wp_region_lit ?_
  refine wpList_callF rfl fn _ _ rfl #[c] (by simp [Act.eval]) hgo (hc w) ?_
  rintro e w1 ⟨⟨y, rfl, hy⟩, hb⟩
  refine ⟨_, rfl, ?_⟩
  have hfr1 : Fr p g x (a.put (some s1) (val y)) := hfr.put _ hs1.2.1 hs1.2.2
  refine wpList_gives rfl (gives_field k o _ rfl x hfr1.tp hoff h0) ?_
  refine law y rfl _ _ rfl x (hfr1.same _ hs2.1) n b X ((eval_put_ne _ hs).trans (hfr.same _ hs1.1)) (hx.after hb).hx ?_
  intro w' hMv
  exact hK _ _ y hy (hfr1.put _ hs2.2.1 hs2.2.2) ((hx.after hb).put hMv)

/-- x = g -/
theorem copy_g (hs : s < 189 ∧ 3 ≠ s ∧ p ≠ s) (hfr : Fr p g x a) (hx : Mem3 F n b w0 g x r G X w) (hK : ∀ a' w', Fr p g x a' → Mem3 F n b w0 g x r G G w' → K a' w') :
    (Code.region i #[⟨some s, .load 38 (.tmp 3), t1, p1, e1, none⟩, ⟨none, .store 38 (.tmp p) (.tmp s), t2, p2, e2, none⟩] false).wp Tryf.prog (Exit.then K Q) a w := by
  refine wp_region_lit ?_
  refine wpList_load_row rfl 38 _ rfl g hfr.fr.t3 38 (lay n b G) (0, 0) _ hx.mem.hg Tryf.underlying38 rfl info38 ?_
  refine wpList_store_whole 38 rfl _ _ rfl x (lay n b G) (hfr.put _ hs.2.1 hs.2.2).tp (hfr.same _ hs.1) 38 (lay n b X) hx.hx info38 rfl (lay_one n b G) ?_
  intro w' hMv
  exact hK _ _ (hfr.put _ hs.2.1 hs.2.2) (hx.put hMv)

/-- x := g -/
theorem new_g (hs : s < 189 ∧ 3 ≠ s ∧ s ≠ p) (hp : p < 189 ∧ 3 ≠ p) (hfr : Fr0 g a) (hm : Mem F n b w0 g r G w) (hK : ∀ a' w' x, Fr p g x a' → Mem3 F n b w0 g x r G G w' → K a' w') :
    (Code.region i #[⟨some s, .load 38 (.tmp 3), t1, p1, e1, none⟩, ⟨some p, .alloc 38, t2, p2, e2, none⟩, ⟨none, .store 38 (.tmp p) (.tmp s), t3, p3, e3, none⟩] false).wp Tryf.prog (Exit.then K Q) a w := by
  refine wp_region_lit ?_
  refine wpList_load_row rfl 38 _ rfl g hfr.t3 38 (lay n b G) (0, 0) _ hm.hg Tryf.underlying38 rfl info38 ?_
  refine wpList_alloc38 rfl rfl ?_
  have hfr1 := hfr.put (s := s) (.agg (lay n b G)) hs.2.1
  have hfr2 : Fr p g w.heap.size ((a.put (some s) (.agg (lay n b G))).put (some p) (.pointer (some ⟨w.heap.size, 0, none⟩))) := ⟨hfr1.put _ hp.2, hfr1.same _ hp.1⟩
  refine wpList_store_whole 38 rfl _ _ rfl w.heap.size (lay n b G) hfr2.tp ((eval_put_ne _ hs.2.2).trans (hfr.same _ hs.1)) 38 zeros (heap_alloc_new _ _) info38 rfl (lay_one n b G) ?_
  intro w' hMv
  exact hK _ _ _ hfr2 (hm.new hMv)

/-- if accepted(x) { return false }: it is refused -/
theorem refused {ts : Array TypeId} {T : Code} (hs1 : s1 < 189 ∧ 3 ≠ s1 ∧ p ≠ s1) (hs2 : s2 < 189 ∧ 3 ≠ s2 ∧ p ≠ s2) (hfr : Fr p g x a) (hx : Mem3 F n b w0 g x r G X w) (hc : X.clk = true → -1 ≤ X.skew) (hno : ¬ Ok X)
    (hK : ∀ a' w', Fr p g x a' → Mem3 F n b w0 g x r G X w' → K a' w') :
    (Code.seq (.region i #[⟨some s1, .load 38 (.tmp p), t1, p1, e1, none⟩, ⟨some s2, .call ⟨.value (.func 24), #[.tmp s1], ts⟩, t2, p2, e2, none⟩] false) (.cond (.tmp s2) T .skip)).wp Tryf.prog (Exit.then K Q) a w := by
  refine wp_seq (wp_region_lit ?_)
  refine wpList_load_row rfl 38 _ rfl x hfr.tp 38 (lay n b X) (0, 0) _ hx.hx Tryf.underlying38 rfl info38 ?_
  have hfr1 := hfr.put (s := s1) (.agg (lay n b X)) hs1.2.1 hs1.2.2
  refine wpList_callF rfl 24 _ _ rfl #[.agg (lay n b X)] ?_ isGo24 (acc_no F n b X w hx.mem.ans hc hno) ?_
  · have e := hfr.same (s := s1) (.agg (lay n b X)) hs1.1
    simp only [List.map_toArray, List.map_cons, List.map_nil, e]
  rintro e w1 ⟨rfl, hb⟩
  refine ⟨_, rfl, ?_⟩
  refine wp_cond_false (hfr1.same _ hs2.1) (wp_skip ?_)
  exact hK _ _ (hfr1.put _ hs2.2.1 hs2.2.2) (hx.after hb)
end
end Go.Proofs.Qxb6612340aFmt
