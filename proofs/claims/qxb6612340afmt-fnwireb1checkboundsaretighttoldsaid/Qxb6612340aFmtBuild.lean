import Derived.Test.Qxb6612340aFmtStep
namespace Go.Proofs.Qxb6612340aFmt
open Go.RowKit Go.Extern.Stop Go.Stop Go.Extern
variable {ops : Array Oper} {rest : List Oper} {op : Oper} {a : Act} {w : World} {Q : Exit → Act → World → Prop}

theorem Moved.keep {g t cs} {w w' : World} (h : Moved g t cs w w') {k : Nat} (hk : k ≠ g) {o : Option Obj} (hs : w.heap[k]? = o) : w'.heap[k]? = o := (h.other k hk).trans hs
theorem lay_0 (n : Nat → Int) (b : Nat → Bool) (r : Req) : (lay n b r)[0]? = some (.int .u8 (n 0)) := rfl
theorem lay_1 (n : Nat → Int) (b : Nat → Bool) (r : Req) : (lay n b r)[1]? = some (.int .i64 r.node) := rfl
theorem lay_2 (n : Nat → Int) (b : Nat → Bool) (r : Req) : (lay n b r)[2]? = some (.string r.obj) := rfl
theorem lay_3 (n : Nat → Int) (b : Nat → Bool) (r : Req) : (lay n b r)[3]? = some (.int .u64 (n 3)) := rfl
theorem lay_4 (n : Nat → Int) (b : Nat → Bool) (r : Req) : (lay n b r)[4]? = some (.int .u64 (n 4)) := rfl
theorem lay_5 (n : Nat → Int) (b : Nat → Bool) (r : Req) : (lay n b r)[5]? = some (.slice r.vv.a r.vv.l r.vv.c) := rfl
theorem lay_6 (n : Nat → Int) (b : Nat → Bool) (r : Req) : (lay n b r)[6]? = some (.slice r.vp.a r.vp.l r.vp.c) := rfl
theorem lay_7 (n : Nat → Int) (b : Nat → Bool) (r : Req) : (lay n b r)[7]? = some (.int .u64 (n 7)) := rfl
theorem lay_8 (n : Nat → Int) (b : Nat → Bool) (r : Req) : (lay n b r)[8]? = some (.slice r.vc.a r.vc.l r.vc.c) := rfl
theorem lay_9 (n : Nat → Int) (b : Nat → Bool) (r : Req) : (lay n b r)[9]? = some (.slice r.vf.a r.vf.l r.vf.c) := rfl
theorem lay_10 (n : Nat → Int) (b : Nat → Bool) (r : Req) : (lay n b r)[10]? = some (.bool (b 10)) := rfl
theorem lay_11 (n : Nat → Int) (b : Nat → Bool) (r : Req) : (lay n b r)[11]? = some (.bool r.clk) := rfl
theorem lay_12 (n : Nat → Int) (b : Nat → Bool) (r : Req) : (lay n b r)[12]? = some (.int .i64 r.skew) := rfl
theorem lay_13 (n : Nat → Int) (b : Nat → Bool) (r : Req) : (lay n b r)[13]? = some (.int .u64 (n 13)) := rfl
theorem lay_14 (n : Nat → Int) (b : Nat → Bool) (r : Req) : (lay n b r)[14]? = some (.int .u64 (n 14)) := rfl
theorem lay_15 (n : Nat → Int) (b : Nat → Bool) (r : Req) : (lay n b r)[15]? = some (.slice r.sv.a r.sv.l r.sv.c) := rfl
theorem lay_16 (n : Nat → Int) (b : Nat → Bool) (r : Req) : (lay n b r)[16]? = some (.int .u64 (n 16)) := rfl
theorem lay_17 (n : Nat → Int) (b : Nat → Bool) (r : Req) : (lay n b r)[17]? = some (.int .u64 (n 17)) := rfl
theorem lay_34 (n : Nat → Int) (b : Nat → Bool) (r : Req) : (lay n b r)[34]? = some (.int .i64 r.depth) := rfl
theorem lay_35 (n : Nat → Int) (b : Nat → Bool) (r : Req) : (lay n b r)[35]? = some (.bool (b 35)) := rfl
theorem lay_36 (n : Nat → Int) (b : Nat → Bool) (r : Req) : (lay n b r)[36]? = some (.bool (b 36)) := rfl
theorem lay_37 (n : Nat → Int) (b : Nat → Bool) (r : Req) : (lay n b r)[37]? = some (.bool (b 37)) := rfl
theorem lay_38 (n : Nat → Int) (b : Nat → Bool) (r : Req) : (lay n b r)[38]? = some (.int .u64 (n 38)) := rfl
theorem lay_39 (n : Nat → Int) (b : Nat → Bool) (r : Req) : (lay n b r)[39]? = some (.int .u64 (n 39)) := rfl
theorem lay_40 (n : Nat → Int) (b : Nat → Bool) (r : Req) : (lay n b r)[40]? = some (.slice r.hv.a r.hv.l r.hv.c) := rfl
theorem lay_41 (n : Nat → Int) (b : Nat → Bool) (r : Req) : (lay n b r)[41]? = some (.slice r.pa.a r.pa.l r.pa.c) := rfl
theorem lay_42 (n : Nat → Int) (b : Nat → Bool) (r : Req) : (lay n b r)[42]? = some (.string r.pre) := rfl
theorem lay_43 (n : Nat → Int) (b : Nat → Bool) (r : Req) : (lay n b r)[43]? = some (.string r.st) := rfl
theorem lay_44 (n : Nat → Int) (b : Nat → Bool) (r : Req) : (lay n b r)[44]? = some (.bool (b 44)) := rfl
theorem lay_45 (n : Nat → Int) (b : Nat → Bool) (r : Req) : (lay n b r)[45]? = some (.int .i64 r.lim) := rfl
theorem zeros_size : zeros.size = 46 := rfl
theorem mix_step (c : Array Value) (hc : c.size = 46) (k m : Nat) (hk : k + m ≤ 46) (vs : List Value) (hvs : vs = (c.toList.drop k).take m) :
    ((mix c k).toList.take k ++ vs ++ (mix c k).toList.drop (k + vs.length)).toArray = mix c (k + m) := by
  subst hvs
  have hz : zeros.toList.length = 46 := rfl
  have hcl : c.toList.length = 46 := by simpa using hc
  have e1 : ((c.toList.drop k).take m).length = m := by simp [hcl]; omega
  rw [e1]
  unfold mix
  congr 1
  apply List.ext_getElem?
  intro i
  simp only [List.getElem?_append, List.length_append, List.length_take, List.length_drop, hcl, hz, List.getElem?_take, List.getElem?_drop, e1]
  have m1 : min k 46 = k := by omega
  have m2 : min (k + m) 46 = k + m := by omega
  have m3 : min k (k + (46 - k)) = k := by omega
  simp only [m1, m2, m3]
  by_cases h1 : i < k
  · simp [h1, show i < k + m by omega]
  · by_cases h2 : i < k + m
    · have h3 : i - k < m := by omega
      simp [h1, h2, h3, show k + (i - k) = i by omega]
    · have h4 : ¬ i - (k + m) + (k + m) < k := by omega
      simp [h2]
      all_goals first
        | (congr 1; omega)
        | (have : ¬ (k + m + (i - (k + m)) < k) := by omega
           simp [this]; congr 1; omega)

theorem wpList_store_mix (hgd : op.guard = none) (ty : TypeId) (x y : Operand) (ho : op.op = .store ty x y) (g k m : Nat) (hx : a.eval x = .pointer (some ⟨g, k, none⟩))
    (v : Value) (hy : a.eval y = v) (c : Array Value) (hc : c.size = 46) (h1 : c.all (·.oneCell') = true) (hvs : v.cells.toList = (c.toList.drop k).take m)
    (t : TypeId) (hg : w.heap[g]? = some (.cells (mix c k) t (0, 0))) (hb : k + m ≤ 46) (hi : (Tryf.prog.info? ty).map (·.size) = some m)
    (h : ∀ w', Moved g t (mix c (k + m)) w w' → wpList Tryf.prog ops Q rest (a.put op.dst undef) w') : wpList Tryf.prog ops Q (op :: rest) a w := by
  have hcl : c.toList.length = 46 := by simpa using hc
  have e0 : v.cells.toList.length = m := by rw [hvs]; simp [hcl]; omega
  have e1 : v.cells.size = m := by simpa using e0
  have hz : zeros.toList.length = 46 := rfl
  refine wpList_store_in hgd ty x y ho g k hx v hy v.cells rfl t (mix c k) hg ?_ (by rw [e1]; exact hi) ?_ (mix c (k + m)) ?_ h
  · rw [e1]
    unfold mix
    simp only [List.size_toArray, List.length_append, List.length_take, List.length_drop, hcl, hz]
    omega
  · refine Array.all_eq_true_iff_forall_mem.2 (fun u hu => ?_)
    have hu' : u ∈ v.cells.toList := by simpa using hu
    rw [hvs] at hu'
    have := List.mem_of_mem_drop (List.mem_of_mem_take hu')
    exact (Array.all_eq_true_iff_forall_mem.1 h1) u (by simpa using this)
  · have := mix_step c hc k m hb v.cells.toList hvs
    simpa using this

theorem inf58 : (Tryf.prog.info? 58).map (·.size) = some 7 := by kernel_rfl
theorem inf54 : (Tryf.prog.info? 54).map (·.size) = some 3 := by kernel_rfl
theorem inf62 : (Tryf.prog.info? 62).map (·.size) = some 18 := by kernel_rfl
theorem inf52 : (Tryf.prog.info? 52).map (·.size) = some 1 := by kernel_rfl
theorem inf3 : (Tryf.prog.info? 3).map (·.size) = some 1 := by kernel_rfl
theorem inf9 : (Tryf.prog.info? 9).map (·.size) = some 1 := by kernel_rfl
theorem inf4 : (Tryf.prog.info? 4).map (·.size) = some 1 := by kernel_rfl
theorem inf59 : (Tryf.prog.info? 59).map (·.size) = some 1 := by kernel_rfl
theorem inf22 : (Tryf.prog.info? 22).map (·.size) = some 1 := by kernel_rfl
theorem mix_all (n : Nat → Int) (b : Nat → Bool) (r : Req) : mix (lay n b r) 46 = lay n b r := by
  have h1 : (lay n b r).toList.length ≤ 46 := Nat.le_refl _
  have h2 : zeros.toList.length ≤ 46 := Nat.le_refl _
  unfold mix
  rw [List.take_of_length_le h1, List.drop_of_length_le h2]
  simp
theorem wpList_store_whole (ty : TypeId) (hgd : op.guard = none) (x y : Operand) (ho : op.op = .store ty x y) (g : Nat) (c : Array Value) (hx : a.eval x = .pointer (some ⟨g, 0, none⟩)) (hy : a.eval y = .agg c)
    (t : TypeId) (old : Array Value) (hg : w.heap[g]? = some (.cells old t (0, 0))) (hi : (Tryf.prog.info? ty).map (·.size) = some c.size) (hold : old.size = c.size) (h1 : c.all (·.oneCell') = true)
    (h : ∀ w', Moved g t c w w' → wpList Tryf.prog ops Q rest (a.put op.dst undef) w') : wpList Tryf.prog ops Q (op :: rest) a w :=
  wpList_store_row hgd ty x y ho g c hx hy t old hg hi hold h1 (h _ ⟨setRow_heap w g old c t (0, 0) hg, fun k hk => setRow_other w g k c hk, by simp, rfl, rfl, rfl⟩)
theorem info36 : (Tryf.prog.info? 36).map (·.size) = some 16 := by kernel_rfl
def key (n : Nat → Int) : List Value := [.int .u8 (n 18), .int .u8 (n 19), .int .u8 (n 20), .int .u8 (n 21), .int .u8 (n 22), .int .u8 (n 23), .int .u8 (n 24), .int .u8 (n 25), .int .u8 (n 26), .int .u8 (n 27), .int .u8 (n 28), .int .u8 (n 29), .int .u8 (n 30), .int .u8 (n 31), .int .u8 (n 32), .int .u8 (n 33)]
theorem key_get (n : Nat → Int) (b : Nat → Bool) (r : Req) : ∀ j v, (key n)[j]? = some v → (lay n b r)[18 + j]? = some v := by
  intro j v hv
  have hj : j < 16 := by
    have := (List.getElem?_eq_some_iff.1 hv).1
    simpa [key] using this
  obtain rfl | rfl | rfl | rfl | rfl | rfl | rfl | rfl | rfl | rfl | rfl | rfl | rfl | rfl | rfl | rfl : j = 0 ∨ j = 1 ∨ j = 2 ∨ j = 3 ∨ j = 4 ∨ j = 5 ∨ j = 6 ∨ j = 7 ∨ j = 8 ∨ j = 9 ∨ j = 10 ∨ j = 11 ∨ j = 12 ∨ j = 13 ∨ j = 14 ∨ j = 15 := by omega
  all_goals exact hv

set_option maxRecDepth 100000 in
set_option maxHeartbeats 4000000 in
theorem build31 (n : Nat → Int) (b : Nat → Bool) (r : Req) (w : World) :
    Calls Tryf.prog 31 #[.agg (lay n b r)] w fun e w' => e = .returned (.agg (lay n b r)) ∧ Below w.heap.size w w' := by
  have hS : (((w.alloc (.cells (lay n b r) 38)).alloc (.cells zeros 64)).alloc (.cells zeros 64)).heap[w.heap.size]? = some (.cells (lay n b r) 38 (0, 0)) := by
    rw [heap_alloc_old _ _ (by simp <;> omega), heap_alloc_old _ _ (by simp <;> omega), heap_alloc_new]
  have hR : (((w.alloc (.cells (lay n b r) 38)).alloc (.cells zeros 64)).alloc (.cells zeros 64)).heap[w.heap.size + 1]? = some (.cells zeros 64 (0, 0)) := by
    rw [heap_alloc_old _ _ (by simp <;> omega)]
    have := heap_alloc_new (w.alloc (.cells (lay n b r) 38)) (.cells zeros 64)
    simpa using this
  have hD : (((w.alloc (.cells (lay n b r) 38)).alloc (.cells zeros 64)).alloc (.cells zeros 64)).heap[w.heap.size + 1 + 1]? = some (.cells (mix (lay n b r) 0) 64 (0, 0)) := by
    have := heap_alloc_new ((w.alloc (.cells (lay n b r) 38)).alloc (.cells zeros 64)) (.cells zeros 64)
    have e : mix (lay n b r) 0 = zeros := rfl
    rw [e]
    simpa using this
  have hB : Below w.heap.size w (((w.alloc (.cells (lay n b r) 38)).alloc (.cells zeros 64)).alloc (.cells zeros 64)) :=
    (((Below.refl _ _).alloc (Nat.le_refl _) _).alloc (by simp) _).alloc (by simp; omega) _
  go_enter Tryf.func31, Tryf.ntmps31
  go_wp2_with (first
    | ((with_reducible show wpList _ _ _ (Oper.mk _ (Op.load 36 _) _ _ _ _ :: _) _ _); refine wpList_load_mid rfl 36 _ rfl w.heap.size 18 rfl [.int .u8 (n 18), .int .u8 (n 19), .int .u8 (n 20), .int .u8 (n 21), .int .u8 (n 22), .int .u8 (n 23), .int .u8 (n 24), .int .u8 (n 25), .int .u8 (n 26), .int .u8 (n 27), .int .u8 (n 28), .int .u8 (n 29), .int .u8 (n 30), .int .u8 (n 31), .int .u8 (n 32), .int .u8 (n 33)] _ (range_of_row (by exact hS) _ (key_get n b r)) Tryf.underlying36 rfl info36 ?_)
    | ((with_reducible show wpList _ _ _ (Oper.mk _ (Op.load 64 _) _ _ _ _ :: _) _ _); rw [mix_all] at hD; refine wpList_load_row rfl 64 _ rfl (w.heap.size + 1 + 1) rfl 64 (lay n b r) (0, 0) _ hD Tryf.underlying64 rfl info64 ?_)
    | ((with_reducible show wpList _ _ _ (Oper.mk _ (Op.load _ _) _ _ _ _ :: _) _ _); refine wpList_load_in rfl _ _ rfl w.heap.size _ rfl 38 (lay n b r) (by exact hS) _ (by first | with_reducible_and_instances exact lay_0 n b r | with_reducible_and_instances exact lay_1 n b r | with_reducible_and_instances exact lay_2 n b r | with_reducible_and_instances exact lay_3 n b r | with_reducible_and_instances exact lay_4 n b r | with_reducible_and_instances exact lay_5 n b r | with_reducible_and_instances exact lay_6 n b r | with_reducible_and_instances exact lay_7 n b r | with_reducible_and_instances exact lay_8 n b r | with_reducible_and_instances exact lay_9 n b r | with_reducible_and_instances exact lay_10 n b r | with_reducible_and_instances exact lay_11 n b r | with_reducible_and_instances exact lay_12 n b r | with_reducible_and_instances exact lay_13 n b r | with_reducible_and_instances exact lay_14 n b r | with_reducible_and_instances exact lay_15 n b r | with_reducible_and_instances exact lay_16 n b r | with_reducible_and_instances exact lay_17 n b r | with_reducible_and_instances exact lay_34 n b r | with_reducible_and_instances exact lay_35 n b r | with_reducible_and_instances exact lay_36 n b r | with_reducible_and_instances exact lay_37 n b r | with_reducible_and_instances exact lay_38 n b r | with_reducible_and_instances exact lay_39 n b r | with_reducible_and_instances exact lay_40 n b r | with_reducible_and_instances exact lay_41 n b r | with_reducible_and_instances exact lay_42 n b r | with_reducible_and_instances exact lay_43 n b r | with_reducible_and_instances exact lay_44 n b r | with_reducible_and_instances exact lay_45 n b r) (by kernel_rfl) ?_)
    | ((with_reducible show wpList _ _ _ (Oper.mk _ (Op.store 58 _ _) _ _ _ _ :: _) _ _); refine wpList_store_mix rfl 58 _ _ rfl (w.heap.size + 1 + 1) _ 7 rfl _ rfl (lay n b r) rfl (lay_one n b r) rfl 64 hD (by decide) inf58 ?_; intro w' hM; replace hS := hM.keep (by omega) hS; replace hR := hM.keep (by omega) hR; replace hB := hB.trans (hM.below (by omega)); replace hD := hM.row; clear hM; simp only [Nat.reduceAdd] at hD)
    | ((with_reducible show wpList _ _ _ (Oper.mk _ (Op.store 54 _ _) _ _ _ _ :: _) _ _); refine wpList_store_mix rfl 54 _ _ rfl (w.heap.size + 1 + 1) _ 3 rfl _ rfl (lay n b r) rfl (lay_one n b r) rfl 64 hD (by decide) inf54 ?_; intro w' hM; replace hS := hM.keep (by omega) hS; replace hR := hM.keep (by omega) hR; replace hB := hB.trans (hM.below (by omega)); replace hD := hM.row; clear hM; simp only [Nat.reduceAdd] at hD)
    | ((with_reducible show wpList _ _ _ (Oper.mk _ (Op.store 62 _ _) _ _ _ _ :: _) _ _); refine wpList_store_mix rfl 62 _ _ rfl (w.heap.size + 1 + 1) _ 18 rfl _ rfl (lay n b r) rfl (lay_one n b r) rfl 64 hD (by decide) inf62 ?_; intro w' hM; replace hS := hM.keep (by omega) hS; replace hR := hM.keep (by omega) hR; replace hB := hB.trans (hM.below (by omega)); replace hD := hM.row; clear hM; simp only [Nat.reduceAdd] at hD)
    | ((with_reducible show wpList _ _ _ (Oper.mk _ (Op.store 52 _ _) _ _ _ _ :: _) _ _); refine wpList_store_mix rfl 52 _ _ rfl (w.heap.size + 1 + 1) _ 1 rfl _ rfl (lay n b r) rfl (lay_one n b r) rfl 64 hD (by decide) inf52 ?_; intro w' hM; replace hS := hM.keep (by omega) hS; replace hR := hM.keep (by omega) hR; replace hB := hB.trans (hM.below (by omega)); replace hD := hM.row; clear hM; simp only [Nat.reduceAdd] at hD)
    | ((with_reducible show wpList _ _ _ (Oper.mk _ (Op.store 3 _ _) _ _ _ _ :: _) _ _); refine wpList_store_mix rfl 3 _ _ rfl (w.heap.size + 1 + 1) _ 1 rfl _ rfl (lay n b r) rfl (lay_one n b r) rfl 64 hD (by decide) inf3 ?_; intro w' hM; replace hS := hM.keep (by omega) hS; replace hR := hM.keep (by omega) hR; replace hB := hB.trans (hM.below (by omega)); replace hD := hM.row; clear hM; simp only [Nat.reduceAdd] at hD)
    | ((with_reducible show wpList _ _ _ (Oper.mk _ (Op.store 9 _ _) _ _ _ _ :: _) _ _); refine wpList_store_mix rfl 9 _ _ rfl (w.heap.size + 1 + 1) _ 1 rfl _ rfl (lay n b r) rfl (lay_one n b r) rfl 64 hD (by decide) inf9 ?_; intro w' hM; replace hS := hM.keep (by omega) hS; replace hR := hM.keep (by omega) hR; replace hB := hB.trans (hM.below (by omega)); replace hD := hM.row; clear hM; simp only [Nat.reduceAdd] at hD)
    | ((with_reducible show wpList _ _ _ (Oper.mk _ (Op.store 4 _ _) _ _ _ _ :: _) _ _); refine wpList_store_mix rfl 4 _ _ rfl (w.heap.size + 1 + 1) _ 1 rfl _ rfl (lay n b r) rfl (lay_one n b r) rfl 64 hD (by decide) inf4 ?_; intro w' hM; replace hS := hM.keep (by omega) hS; replace hR := hM.keep (by omega) hR; replace hB := hB.trans (hM.below (by omega)); replace hD := hM.row; clear hM; simp only [Nat.reduceAdd] at hD)
    | ((with_reducible show wpList _ _ _ (Oper.mk _ (Op.store 59 _ _) _ _ _ _ :: _) _ _); refine wpList_store_mix rfl 59 _ _ rfl (w.heap.size + 1 + 1) _ 1 rfl _ rfl (lay n b r) rfl (lay_one n b r) rfl 64 hD (by decide) inf59 ?_; intro w' hM; replace hS := hM.keep (by omega) hS; replace hR := hM.keep (by omega) hR; replace hB := hB.trans (hM.below (by omega)); replace hD := hM.row; clear hM; simp only [Nat.reduceAdd] at hD)
    | ((with_reducible show wpList _ _ _ (Oper.mk _ (Op.store 22 _ _) _ _ _ _ :: _) _ _); refine wpList_store_mix rfl 22 _ _ rfl (w.heap.size + 1 + 1) _ 1 rfl _ rfl (lay n b r) rfl (lay_one n b r) rfl 64 hD (by decide) inf22 ?_; intro w' hM; replace hS := hM.keep (by omega) hS; replace hR := hM.keep (by omega) hR; replace hB := hB.trans (hM.below (by omega)); replace hD := hM.row; clear hM; simp only [Nat.reduceAdd] at hD))
  refine (skew35 r.skew _).mono ?_
  rintro e wz ⟨rfl, rfl⟩
  go_wp2_with (first
    | ((with_reducible show wpList _ _ _ (Oper.mk _ (Op.load 36 _) _ _ _ _ :: _) _ _); refine wpList_load_mid rfl 36 _ rfl w.heap.size 18 rfl [.int .u8 (n 18), .int .u8 (n 19), .int .u8 (n 20), .int .u8 (n 21), .int .u8 (n 22), .int .u8 (n 23), .int .u8 (n 24), .int .u8 (n 25), .int .u8 (n 26), .int .u8 (n 27), .int .u8 (n 28), .int .u8 (n 29), .int .u8 (n 30), .int .u8 (n 31), .int .u8 (n 32), .int .u8 (n 33)] _ (range_of_row (by exact hS) _ (key_get n b r)) Tryf.underlying36 rfl info36 ?_)
    | ((with_reducible show wpList _ _ _ (Oper.mk _ (Op.load 64 _) _ _ _ _ :: _) _ _); rw [mix_all] at hD; refine wpList_load_row rfl 64 _ rfl (w.heap.size + 1 + 1) rfl 64 (lay n b r) (0, 0) _ hD Tryf.underlying64 rfl info64 ?_)
    | ((with_reducible show wpList _ _ _ (Oper.mk _ (Op.load _ _) _ _ _ _ :: _) _ _); refine wpList_load_in rfl _ _ rfl w.heap.size _ rfl 38 (lay n b r) (by exact hS) _ (by first | with_reducible_and_instances exact lay_0 n b r | with_reducible_and_instances exact lay_1 n b r | with_reducible_and_instances exact lay_2 n b r | with_reducible_and_instances exact lay_3 n b r | with_reducible_and_instances exact lay_4 n b r | with_reducible_and_instances exact lay_5 n b r | with_reducible_and_instances exact lay_6 n b r | with_reducible_and_instances exact lay_7 n b r | with_reducible_and_instances exact lay_8 n b r | with_reducible_and_instances exact lay_9 n b r | with_reducible_and_instances exact lay_10 n b r | with_reducible_and_instances exact lay_11 n b r | with_reducible_and_instances exact lay_12 n b r | with_reducible_and_instances exact lay_13 n b r | with_reducible_and_instances exact lay_14 n b r | with_reducible_and_instances exact lay_15 n b r | with_reducible_and_instances exact lay_16 n b r | with_reducible_and_instances exact lay_17 n b r | with_reducible_and_instances exact lay_34 n b r | with_reducible_and_instances exact lay_35 n b r | with_reducible_and_instances exact lay_36 n b r | with_reducible_and_instances exact lay_37 n b r | with_reducible_and_instances exact lay_38 n b r | with_reducible_and_instances exact lay_39 n b r | with_reducible_and_instances exact lay_40 n b r | with_reducible_and_instances exact lay_41 n b r | with_reducible_and_instances exact lay_42 n b r | with_reducible_and_instances exact lay_43 n b r | with_reducible_and_instances exact lay_44 n b r | with_reducible_and_instances exact lay_45 n b r) (by kernel_rfl) ?_)
    | ((with_reducible show wpList _ _ _ (Oper.mk _ (Op.store 58 _ _) _ _ _ _ :: _) _ _); refine wpList_store_mix rfl 58 _ _ rfl (w.heap.size + 1 + 1) _ 7 rfl _ rfl (lay n b r) rfl (lay_one n b r) rfl 64 hD (by decide) inf58 ?_; intro w' hM; replace hS := hM.keep (by omega) hS; replace hR := hM.keep (by omega) hR; replace hB := hB.trans (hM.below (by omega)); replace hD := hM.row; clear hM; simp only [Nat.reduceAdd] at hD)
    | ((with_reducible show wpList _ _ _ (Oper.mk _ (Op.store 54 _ _) _ _ _ _ :: _) _ _); refine wpList_store_mix rfl 54 _ _ rfl (w.heap.size + 1 + 1) _ 3 rfl _ rfl (lay n b r) rfl (lay_one n b r) rfl 64 hD (by decide) inf54 ?_; intro w' hM; replace hS := hM.keep (by omega) hS; replace hR := hM.keep (by omega) hR; replace hB := hB.trans (hM.below (by omega)); replace hD := hM.row; clear hM; simp only [Nat.reduceAdd] at hD)
    | ((with_reducible show wpList _ _ _ (Oper.mk _ (Op.store 62 _ _) _ _ _ _ :: _) _ _); refine wpList_store_mix rfl 62 _ _ rfl (w.heap.size + 1 + 1) _ 18 rfl _ rfl (lay n b r) rfl (lay_one n b r) rfl 64 hD (by decide) inf62 ?_; intro w' hM; replace hS := hM.keep (by omega) hS; replace hR := hM.keep (by omega) hR; replace hB := hB.trans (hM.below (by omega)); replace hD := hM.row; clear hM; simp only [Nat.reduceAdd] at hD)
    | ((with_reducible show wpList _ _ _ (Oper.mk _ (Op.store 52 _ _) _ _ _ _ :: _) _ _); refine wpList_store_mix rfl 52 _ _ rfl (w.heap.size + 1 + 1) _ 1 rfl _ rfl (lay n b r) rfl (lay_one n b r) rfl 64 hD (by decide) inf52 ?_; intro w' hM; replace hS := hM.keep (by omega) hS; replace hR := hM.keep (by omega) hR; replace hB := hB.trans (hM.below (by omega)); replace hD := hM.row; clear hM; simp only [Nat.reduceAdd] at hD)
    | ((with_reducible show wpList _ _ _ (Oper.mk _ (Op.store 3 _ _) _ _ _ _ :: _) _ _); refine wpList_store_mix rfl 3 _ _ rfl (w.heap.size + 1 + 1) _ 1 rfl _ rfl (lay n b r) rfl (lay_one n b r) rfl 64 hD (by decide) inf3 ?_; intro w' hM; replace hS := hM.keep (by omega) hS; replace hR := hM.keep (by omega) hR; replace hB := hB.trans (hM.below (by omega)); replace hD := hM.row; clear hM; simp only [Nat.reduceAdd] at hD)
    | ((with_reducible show wpList _ _ _ (Oper.mk _ (Op.store 9 _ _) _ _ _ _ :: _) _ _); refine wpList_store_mix rfl 9 _ _ rfl (w.heap.size + 1 + 1) _ 1 rfl _ rfl (lay n b r) rfl (lay_one n b r) rfl 64 hD (by decide) inf9 ?_; intro w' hM; replace hS := hM.keep (by omega) hS; replace hR := hM.keep (by omega) hR; replace hB := hB.trans (hM.below (by omega)); replace hD := hM.row; clear hM; simp only [Nat.reduceAdd] at hD)
    | ((with_reducible show wpList _ _ _ (Oper.mk _ (Op.store 4 _ _) _ _ _ _ :: _) _ _); refine wpList_store_mix rfl 4 _ _ rfl (w.heap.size + 1 + 1) _ 1 rfl _ rfl (lay n b r) rfl (lay_one n b r) rfl 64 hD (by decide) inf4 ?_; intro w' hM; replace hS := hM.keep (by omega) hS; replace hR := hM.keep (by omega) hR; replace hB := hB.trans (hM.below (by omega)); replace hD := hM.row; clear hM; simp only [Nat.reduceAdd] at hD)
    | ((with_reducible show wpList _ _ _ (Oper.mk _ (Op.store 59 _ _) _ _ _ _ :: _) _ _); refine wpList_store_mix rfl 59 _ _ rfl (w.heap.size + 1 + 1) _ 1 rfl _ rfl (lay n b r) rfl (lay_one n b r) rfl 64 hD (by decide) inf59 ?_; intro w' hM; replace hS := hM.keep (by omega) hS; replace hR := hM.keep (by omega) hR; replace hB := hB.trans (hM.below (by omega)); replace hD := hM.row; clear hM; simp only [Nat.reduceAdd] at hD)
    | ((with_reducible show wpList _ _ _ (Oper.mk _ (Op.store 22 _ _) _ _ _ _ :: _) _ _); refine wpList_store_mix rfl 22 _ _ rfl (w.heap.size + 1 + 1) _ 1 rfl _ rfl (lay n b r) rfl (lay_one n b r) rfl 64 hD (by decide) inf22 ?_; intro w' hM; replace hS := hM.keep (by omega) hS; replace hR := hM.keep (by omega) hR; replace hB := hB.trans (hM.below (by omega)); replace hD := hM.row; clear hM; simp only [Nat.reduceAdd] at hD)
    | ((with_reducible show wpList _ _ _ (Oper.mk _ (Op.store 64 _ _) _ _ _ _ :: _) _ _); refine wpList_store_whole 64 rfl _ _ rfl (w.heap.size + 1) (lay n b r) rfl rfl 64 zeros hR info64 rfl (lay_one n b r) ?_; intro w' hM; replace hB := hB.trans (hM.below (by omega)); replace hD := hM.row; clear hM))


  exact bodyPost_ret (results_cell_row Tryf.results31 _ _ (w.heap.size + 1) 64 (lay n b r) (0, 0) _ rfl hD Tryf.underlying64 rfl info64) rfl ⟨rfl, hB⟩
end Go.Proofs.Qxb6612340aFmt
