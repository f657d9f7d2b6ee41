import Derived.Test.Qxb6612294aModel
import Derived.Laws.CopyOwn
import Derived.Deep.RegionHeld3
namespace Go.Proofs.Qxb6612294a
open Go.RowKit

set_option maxHeartbeats 400000 in
set_option maxRecDepth 100000 in
theorem bytes5_yes (H : Nat → Bool) (a : Option Addr) (n c : Nat) (hn : n ≤ 1048576) (w : World) :
    Calls Try.prog 5 #[.agg (hl H).toArray, .slice a n c] w fun e w' => e = .returned (.bool true) ∧ w' = w.alloc (.cells (hl H).toArray 22) := by
  go_enter Try.func5, Try.ntmps5
  go_wp2
  go_ret
  exact ⟨rfl, rfl⟩
set_option maxHeartbeats 400000 in
set_option maxRecDepth 100000 in
theorem bytes5_no (H : Nat → Bool) (a : Option Addr) (n c : Nat) (hn : 1048576 < n) (hm : n ≤ maxLen) (w : World) :
    Calls Try.prog 5 #[.agg (hl H).toArray, .slice a n c] w fun e w' => e = .returned (.bool false) ∧ w' = w.alloc (.cells (hl H).toArray 22) := by
  unfold maxLen at hm
  go_enter Try.func5, Try.ntmps5
  go_wp2
  go_ret
  exact ⟨rfl, rfl⟩

/-- n numbers as cells -/
def kl (ks : Nat → Int) (n : Nat) : List Value := (List.range n).map (fun j => Value.int .i64 (ks j))
theorem kl_length (ks : Nat → Int) (n : Nat) : (kl ks n).length = n := by simp [kl]
theorem kl_get (ks : Nat → Int) (n j : Nat) (h : j < n) : (kl ks n)[j]? = some (.int .i64 (ks j)) := by simp [kl, h]
theorem kl_one (ks : Nat → Int) (n : Nat) : ∀ v ∈ kl ks n, v.oneCell' = true := by
  intro v hv; unfold kl at hv; simp at hv; obtain ⟨j, _, rfl⟩ := hv; rfl
def mk0 (n : Nat) : Array Value := madeCells #[.int .i64 0] (n * 1)
theorem mk0_size (n : Nat) : (mk0 n).size = n := by simp [mk0, size_madeCells]
theorem info2 : (Try.prog.info? 2).map (fun i => (i.zero, i.size, i.bytes)) = some (some (.int .i64 0), 1, 8) := by kernel_rfl
theorem info2s : (Try.prog.info? 2).map (·.size) = some 1 := by kernel_rfl
theorem run_mk (n : Nat) (hn : n ≤ 1000000) (w : World) : (Instr.makeSlice 23 (.int .i64 (n : Int)) (.int .i64 (n : Int))).run Try.prog w = .ok (.slice (some ⟨w.heap.size, 0, none⟩) n n) (w.alloc (.cells (mk0 n) 2)) := by
  obtain ⟨i, hi, hz0, hz1, hz2⟩ := info_parts info2
  have hr := run_make (P := Try.prog) w 23 2 i (.int .i64 0) Try.underlying23 hi hz0 .i64 .i64 n n (by omega) (Int.le_refl _) (by rw [hz2]; omega) (by omega)
  rw [hz1] at hr
  simpa [mk0, Value.cells] using hr
theorem setRow_new (W : World) (c c' : Array Value) (t : TypeId) : (W.alloc (.cells c t)).setRow W.heap.size c' = W.alloc (.cells c' t) := by
  unfold World.setRow World.alloc
  congr 1
  apply Array.ext_getElem?
  intro k
  simp only [Array.getElem?_modify, Array.getElem?_push]
  by_cases hk : k = W.heap.size
  · subst hk; simp
  · simp [hk]; intro e; exact absurd e.symm hk

/-- 'copy(zzc, keys)' into the slice that 'make' has just laid -/
theorem wpList_copy_new (W : World) {ops : Array Oper} {rest : List Oper} {o : Oper} {a : Act} {Q : Exit → Act → World → Prop} (hgd : o.guard = none) (d s : Operand)
    (ho : o.op = .call { callee := .builtin .copy, args := #[d, s], argTypes := #[23, 23] }) (g : Nat) (hg : g = W.heap.size) (n : Nat) (sp : Option Addr) (sCap : Nat) (ks : Nat → Int)
    (hd : a.eval d = .slice (some ⟨g, 0, none⟩) n n) (hs : a.eval s = .slice sp n sCap) (hk : Keys W sp n ks)
    (h : wpList Try.prog ops Q rest (a.put o.dst (goInt n)) (W.alloc (.cells (kl ks n).toArray 2))) : wpList Try.prog ops Q (o :: rest) a (W.alloc (.cells (mk0 n) 2)) := by
  subst hg
  by_cases h0 : n = 0
  · subst h0
    refine wpList_copy_nothing hgd d s 23 23 ho 2 Try.underlying23 info2s _ _ _ _ _ _ hd hs (by rfl) ?_
    have e : mk0 0 = (kl ks 0).toArray := by
      have h1 := mk0_size 0
      rw [Array.size_eq_zero_iff] at h1
      rw [h1]; simp [kl]
    rw [e]; exact h
  · obtain ⟨b, off, rfl, hcells, _⟩ := hk (by omega)
    refine wpList_copy_own hgd d s 23 23 ho 2 Try.underlying23 info2s W.heap.size 0 n n ⟨b, off, none⟩ n sCap hd hs (mk0 n) 2 (heap_alloc_new W _) (kl ks n) (by simp [kl_length]) ?_ (by simp [kl_length, mk0_size]) (kl_one ks n) ?_
    · intro j v hj
      have hjn : j < n := by have := (List.getElem?_eq_some_iff.1 hj).1; rwa [kl_length] at this
      rw [kl_get ks n j hjn] at hj
      cases hj
      have hb := block_lt_of_cell (hcells j hjn)
      rw [Addr.add_mid, ((Below.refl _ W).alloc (Nat.le_refl _) _).cell (p := ⟨b, off + j, none⟩) hb]
      exact hcells j hjn
    · have e : ((mk0 n).toList.take 0 ++ (kl ks n ++ (mk0 n).toList.drop (0 + (kl ks n).length))).toArray = (kl ks n).toArray := by
        rw [List.drop_eq_nil_of_le (by simp [kl_length, mk0_size])]; simp
      rw [e, setRow_new, kl_length]
      exact h

theorem range_one (w : World) (H : Nat → Bool) : (w.alloc (.cells (hl H).toArray 22)).rangeAt w.heap.size 0 (hl H) := by
  intro j v hv
  rw [Nat.zero_add, World.cell?_alloc_at _ _ _ _ rfl]
  simpa using hv

set_option maxHeartbeats 1000000 in
set_option maxRecDepth 100000 in
theorem law3_big (H : Nat → Bool) (a : Option Addr) (n c : Nat) (hn : 65536 < n) (hm : n ≤ maxLen) (w : World) :
    Calls Try.prog 3 #[.agg (hl H).toArray, .slice a n c] w fun e w' => e = .returned (.bool true) ∧ Below w.heap.size w w' := by
  have hi : (Try.prog.info? 22).map (·.size) = some (hl H).length := by rw [hl_length]; exact info22
  have hr := range_one w H
  unfold maxLen at hm
  by_cases hbig : 1048576 < n
  · go_enter Try.func3, Try.ntmps3
    go_wp2_with (first
      | (with_reducible show wpList _ _ _ (Oper.mk _ (Op.load _ _) _ _ _ _ :: _) _ _; refine wpList_load_mid rfl 22 _ rfl w.heap.size 0 rfl (hl H) _ hr Try.underlying22 rfl hi ?_)
      | (go_at_call 5; refine (bytes5_no H a n c hbig hm _).mono ?_; rintro e w' ⟨rfl, rfl⟩))
    go_ret
    exact ⟨rfl, ((Below.refl _ _).alloc (Nat.le_refl _) _).alloc (by simp) _⟩
  · go_enter Try.func3, Try.ntmps3
    go_wp2_with (first
      | (with_reducible show wpList _ _ _ (Oper.mk _ (Op.load _ _) _ _ _ _ :: _) _ _; refine wpList_load_mid rfl 22 _ rfl w.heap.size 0 rfl (hl H) _ hr Try.underlying22 rfl hi ?_)
      | (go_at_call 5; refine (bytes5_yes H a n c (by omega) _).mono ?_; rintro e w' ⟨rfl, rfl⟩))
    go_ret
    exact ⟨rfl, ((Below.refl _ _).alloc (Nat.le_refl _) _).alloc (by simp) _⟩

theorem Keys.below {w w' : World} {a : Option Addr} {n : Nat} {ks : Nat → Int} (h : Keys w a n ks) (hb : Below w.heap.size w w') : Keys w' a n ks := by
  intro hn
  obtain ⟨b, off, rfl, hc, hwf⟩ := h hn
  refine ⟨b, off, rfl, fun j hj => ?_, hwf⟩
  rw [hb.cell (p := ⟨b, off + j, none⟩) (block_lt_of_cell (hc j hj))]
  exact hc j hj
/-- WHAT HOLDS OF THE WORLD ALL ALONG: the array and the keys lie as they lay; nothing older has turned -/
def Lies (w : World) (b : Nat) (H : Nat → Bool) (a : Option Addr) (n : Nat) (ks : Nat → Int) (w' : World) : Prop :=
  w'.rangeAt b 0 (hl H) ∧ Keys w' a n ks ∧ Below w.heap.size w w' ∧ b < w'.heap.size
theorem keepS {w wx w' : World} {b : Nat} {H : Nat → Bool} {a : Option Addr} {n : Nat} {ks : Nat → Int} (h : Lies w b H a n ks wx) (hb : Below wx.heap.size wx w') : Lies w b H a n ks w' :=
  ⟨range_below h.1 hb h.2.2.2, h.2.1.below hb, h.2.2.1.trans (hb.mono h.2.2.1.size), Nat.lt_of_lt_of_le h.2.2.2 hb.size⟩
theorem keepD {w wx : World} {b : Nat} {H : Nat → Bool} {a : Option Addr} {n : Nat} {ks : Nat → Int} (h : Lies w b H a n ks wx) : Lies w b H a n ks wx.drew :=
  ⟨h.1, h.2.1, h.2.2.1.drew, h.2.2.2⟩

set_option maxHeartbeats 1000000 in
set_option maxRecDepth 100000 in
theorem law3_nil (H : Nat → Bool) (ks : Nat → Int) (w : World) :
    Calls Try.prog 3 #[.agg (hl H).toArray, .slice none 0 0] w fun e w' => e = .returned (.bool true) ∧ Below w.heap.size w w' := by
  have hi : (Try.prog.info? 22).map (·.size) = some (hl H).length := by rw [hl_length]; exact info22
  have hr := range_one w H
  have hq := fun wx => run_neq_slice_nil_any (P := Try.prog) wx 23 2 none 0 0 0 0 Try.underlying23
  go_enter Try.func3, Try.ntmps3
  go_wp2_with (first
    | (with_reducible show wpList _ _ _ (Oper.mk _ (Op.load _ _) _ _ _ _ :: _) _ _; refine wpList_load_mid rfl 22 _ rfl w.heap.size 0 rfl (hl H) _ hr Try.underlying22 rfl hi ?_)
    | (go_at_call 5; refine (bytes5_yes H none 0 0 (by omega) _).mono ?_; rintro e w' ⟨rfl, rfl⟩))
  have hS : Lies w w.heap.size H none 0 ks ((w.alloc (.cells (hl H).toArray 22)).alloc (.cells (hl H).toArray 22)) :=
    ⟨range_new w H _, fun h => by omega, ((Below.refl _ _).alloc (Nat.le_refl _) _).alloc (by simp) _, by simp; omega⟩
  clear hr hq
  refine wp_region_held_drew (S := Lies w w.heap.size H none 0 ks) (by kernel_rfl) (keepD hS) (fun hHeld => ?_)
  refine wpAnyH_take (i := 0) (oi := ⟨some 22, Op.load 22 (.tmp 2), 22, _, #[], none⟩) rfl (by kernel_rfl) (by kernel_rfl) (by kernel_rfl) (fun _ _ _ h => h) (yieldsIf_load_mid (by rfl) 22 _ rfl w.heap.size 0 rfl (hl H) _ (fun _ hw => hw.1) Try.underlying22 rfl hi) hHeld ?_
  simp only [Act.put, List.setIfInBounds_toArray, List.set_cons_zero, List.set_cons_succ]
  refine wpAnyH_take (i := 3) (oi := ⟨some 25, Op.load 22 (.tmp 2), 22, _, #[], none⟩) rfl (by kernel_rfl) (by kernel_rfl) (by kernel_rfl) (fun _ _ _ h => h) (yieldsIf_load_mid (by rfl) 22 _ rfl w.heap.size 0 rfl (hl H) _ (fun _ hw => hw.1) Try.underlying22 rfl hi) hHeld ?_
  simp only [Act.put, List.setIfInBounds_toArray, List.set_cons_zero, List.set_cons_succ]
  refine wpAnyH_take (i := 1) (oi := ⟨some 23, Op.move (.tmp 1), 23, _, #[], none⟩) (v := .slice none 0 0) rfl (by kernel_rfl) (by kernel_rfl) (by kernel_rfl) (fun _ _ _ h => h) (Or.inl ⟨by rfl, fun _ _ => by rfl⟩) hHeld ?_
  simp only [Act.put, List.setIfInBounds_toArray, List.set_cons_zero, List.set_cons_succ]
  refine wpAnyH_take (i := 4) (oi := ⟨some 26, Op.move (.tmp 1), 23, _, #[], none⟩) (v := .slice none 0 0) rfl (by kernel_rfl) (by kernel_rfl) (by kernel_rfl) (fun _ _ _ h => h) (Or.inl ⟨by rfl, fun _ _ => by rfl⟩) hHeld ?_
  simp only [Act.put, List.setIfInBounds_toArray, List.set_cons_zero, List.set_cons_succ]
  refine wpAnyH_ready (rs := [2]) (by kernel_rfl) (by simp) ?_
  refine AllReadyH.cons (o := ⟨some 24, Op.call { callee := Callee.value (.func 6), args := #[.tmp 22, .tmp 23], argTypes := #[22, 23] }, 4, _, _, none⟩) rfl (fun K hK => ?_) AllReadyH.nil
  go_simp
  refine (zzcounts_any H none 0 0 ks (by omega) _ hHeld.2.1).mono ?_
  rintro e w1 ⟨rfl, hb1⟩
  have hHeld1 := keepS hHeld hb1
  refine hK.out _ _ hHeld1 (fun _ => ?_)
  clear hK K hb1 hHeld hS
  refine wpAnyH_ready (rs := [5]) (by kernel_rfl) (by simp) ?_
  refine AllReadyH.cons (o := ⟨some 27, Op.call { callee := Callee.value (.func 7), args := #[.tmp 25, .tmp 26], argTypes := #[22, 23] }, 4, _, _, none⟩) rfl (fun K hK => ?_) AllReadyH.nil
  go_simp
  refine (model_any H none 0 0 ks (by omega) _ hHeld1.2.1).mono ?_
  rintro e w2 ⟨rfl, hb2⟩
  have hHeld2 := keepS hHeld1 hb2
  refine hK.out _ _ hHeld2 (fun _ => ?_)
  clear hK K hb2 hHeld1
  generalize cntB H (fun m => isIn ks 0 (mkKey m)) = r
  refine wpAnyH_take (i := 6) (oi := ⟨some 28, Op.binOp BinOp.eql 4 (.tmp 24) (.tmp 27) 4, 4, _, _, none⟩) (v := .bool true) rfl (by kernel_rfl) (by kernel_rfl) (by kernel_rfl) (fun _ _ _ h => h) (Or.inl ⟨by rfl, fun _ _ => by go_simp⟩) hHeld2 ?_
  simp only [Act.put, List.setIfInBounds_toArray, List.set_cons_zero, List.set_cons_succ]
  refine wpAnyH_take (i := 7) (oi := ⟨some 4, Op.assign (.tmp 28), 4, _, _, none⟩) (v := .bool true) rfl (by kernel_rfl) (by kernel_rfl) (by kernel_rfl) (fun _ _ _ h => h) (Or.inl ⟨by rfl, fun _ _ => by rfl⟩) hHeld2 ?_
  simp only [Act.put, List.setIfInBounds_toArray, List.set_cons_zero, List.set_cons_succ]
  refine wpAnyH_done (by kernel_rfl) ?_ _
  go_wp2
  go_ret
  exact ⟨rfl, hHeld2.2.2.1⟩

theorem Keys.copied (W : World) (ks : Nat → Int) (n : Nat) (hwf : ∀ j, j < n → (Lit.int .i64 (ks j)).wf = true) : Keys (W.alloc (.cells (kl ks n).toArray 2)) (some ⟨W.heap.size, 0, none⟩) n ks := by
  intro _
  refine ⟨W.heap.size, 0, rfl, fun j hj => ?_, hwf⟩
  rw [Nat.zero_add, World.cell?_alloc_at _ _ _ _ rfl]
  simpa using kl_get ks n j hj

set_option maxHeartbeats 1000000 in
set_option maxRecDepth 100000 in
theorem law3_some (H : Nat → Bool) (x : Addr) (n c : Nat) (ks : Nat → Int) (hn : n ≤ 65536) (hwf : ∀ j, j < n → (Lit.int .i64 (ks j)).wf = true) (w : World) (hk : Keys w (some x) n ks) :
    Calls Try.prog 3 #[.agg (hl H).toArray, .slice (some x) n c] w fun e w' => e = .returned (.bool true) ∧ Below w.heap.size w w' := by
  have HK : Hid (Keys w (some x) n ks) := hk
  have HW : Hid (∀ j, j < n → (Lit.int .i64 (ks j)).wf = true) := hwf
  clear hk hwf
  have hi : (Try.prog.info? 22).map (·.size) = some (hl H).length := by rw [hl_length]; exact info22
  have hr := range_one w H
  have hq := fun wx => run_neq_slice_nil_any (P := Try.prog) wx 23 2 (some x) n c 0 0 Try.underlying23
  have hmk := run_mk n (by omega)
  go_enter Try.func3, Try.ntmps3
  go_wp2_with (first
    | (with_reducible show wpList _ _ _ (Oper.mk _ (Op.load _ _) _ _ _ _ :: _) _ _; refine wpList_load_mid rfl 22 _ rfl w.heap.size 0 rfl (hl H) _ hr Try.underlying22 rfl hi ?_)
    | (go_at_call 5; refine (bytes5_yes H (some x) n c (by omega) _).mono ?_; rintro e w' ⟨rfl, rfl⟩)
    | (with_reducible show wpList _ _ _ (Oper.mk _ (Op.call _) _ _ _ _ :: _) _ _; refine wpList_copy_new ((w.alloc (.cells (hl H).toArray 22)).alloc (.cells (hl H).toArray 22)) rfl _ _ rfl _ (by simp) n (some x) c ks rfl rfl (HK.out.below (((Below.refl _ _).alloc (Nat.le_refl _) _).alloc (by simp) _)) ?_))
  have hS : Lies w w.heap.size H (some ⟨w.heap.size + 1 + 1, 0, none⟩) n ks (((w.alloc (.cells (hl H).toArray 22)).alloc (.cells (hl H).toArray 22)).alloc (.cells (kl ks n).toArray 2)) :=
    ⟨World.rangeAt_alloc (range_new w H _) _, by simpa using Keys.copied ((w.alloc (.cells (hl H).toArray 22)).alloc (.cells (hl H).toArray 22)) ks n HW.out, (((Below.refl _ _).alloc (Nat.le_refl _) _).alloc (by simp) _).alloc (by simp; omega) _, by simp; omega⟩
  clear hr hq hmk
  refine wp_region_held_drew (S := Lies w w.heap.size H (some ⟨w.heap.size + 1 + 1, 0, none⟩) n ks) (by kernel_rfl) (keepD hS) (fun hHeld => ?_)
  refine wpAnyH_take (i := 0) (oi := ⟨some 22, Op.load 22 (.tmp 2), 22, _, #[], none⟩) rfl (by kernel_rfl) (by kernel_rfl) (by kernel_rfl) (fun _ _ _ h => h) (yieldsIf_load_mid (by rfl) 22 _ rfl w.heap.size 0 rfl (hl H) _ (fun _ hw => hw.1) Try.underlying22 rfl hi) hHeld ?_
  simp only [Act.put, List.setIfInBounds_toArray, List.set_cons_zero, List.set_cons_succ]
  refine wpAnyH_take (i := 3) (oi := ⟨some 25, Op.load 22 (.tmp 2), 22, _, #[], none⟩) rfl (by kernel_rfl) (by kernel_rfl) (by kernel_rfl) (fun _ _ _ h => h) (yieldsIf_load_mid (by rfl) 22 _ rfl w.heap.size 0 rfl (hl H) _ (fun _ hw => hw.1) Try.underlying22 rfl hi) hHeld ?_
  simp only [Act.put, List.setIfInBounds_toArray, List.set_cons_zero, List.set_cons_succ]
  refine wpAnyH_take (i := 1) (oi := ⟨some 23, Op.move (.tmp 1), 23, _, #[], none⟩) (v := .slice (some ⟨w.heap.size + 1 + 1, 0, none⟩) n n) rfl (by kernel_rfl) (by kernel_rfl) (by kernel_rfl) (fun _ _ _ h => h) (Or.inl ⟨by rfl, fun _ _ => by rfl⟩) hHeld ?_
  simp only [Act.put, List.setIfInBounds_toArray, List.set_cons_zero, List.set_cons_succ]
  refine wpAnyH_take (i := 4) (oi := ⟨some 26, Op.move (.tmp 1), 23, _, #[], none⟩) (v := .slice (some ⟨w.heap.size + 1 + 1, 0, none⟩) n n) rfl (by kernel_rfl) (by kernel_rfl) (by kernel_rfl) (fun _ _ _ h => h) (Or.inl ⟨by rfl, fun _ _ => by rfl⟩) hHeld ?_
  simp only [Act.put, List.setIfInBounds_toArray, List.set_cons_zero, List.set_cons_succ]
  refine wpAnyH_ready (rs := [2]) (by kernel_rfl) (by simp) ?_
  refine AllReadyH.cons (o := ⟨some 24, Op.call { callee := Callee.value (.func 6), args := #[.tmp 22, .tmp 23], argTypes := #[22, 23] }, 4, _, _, none⟩) rfl (fun K hK => ?_) AllReadyH.nil
  go_simp
  refine (zzcounts_any H (some ⟨w.heap.size + 1 + 1, 0, none⟩) n n ks (by omega) _ hHeld.2.1).mono ?_
  rintro e w1 ⟨rfl, hb1⟩
  have hHeld1 := keepS hHeld hb1
  refine hK.out _ _ hHeld1 (fun _ => ?_)
  clear hK K hb1 hHeld hS
  refine wpAnyH_ready (rs := [5]) (by kernel_rfl) (by simp) ?_
  refine AllReadyH.cons (o := ⟨some 27, Op.call { callee := Callee.value (.func 7), args := #[.tmp 25, .tmp 26], argTypes := #[22, 23] }, 4, _, _, none⟩) rfl (fun K hK => ?_) AllReadyH.nil
  go_simp
  refine (model_any H (some ⟨w.heap.size + 1 + 1, 0, none⟩) n n ks (by omega) _ hHeld1.2.1).mono ?_
  rintro e w2 ⟨rfl, hb2⟩
  have hHeld2 := keepS hHeld1 hb2
  refine hK.out _ _ hHeld2 (fun _ => ?_)
  clear hK K hb2 hHeld1
  generalize cntB H (fun m => isIn ks n (mkKey m)) = r
  refine wpAnyH_take (i := 6) (oi := ⟨some 28, Op.binOp BinOp.eql 4 (.tmp 24) (.tmp 27) 4, 4, _, _, none⟩) (v := .bool true) rfl (by kernel_rfl) (by kernel_rfl) (by kernel_rfl) (fun _ _ _ h => h) (Or.inl ⟨by rfl, fun _ _ => by go_simp⟩) hHeld2 ?_
  simp only [Act.put, List.setIfInBounds_toArray, List.set_cons_zero, List.set_cons_succ]
  refine wpAnyH_take (i := 7) (oi := ⟨some 4, Op.assign (.tmp 28), 4, _, _, none⟩) (v := .bool true) rfl (by kernel_rfl) (by kernel_rfl) (by kernel_rfl) (fun _ _ _ h => h) (Or.inl ⟨by rfl, fun _ _ => by rfl⟩) hHeld2 ?_
  simp only [Act.put, List.setIfInBounds_toArray, List.set_cons_zero, List.set_cons_succ]
  refine wpAnyH_done (by kernel_rfl) ?_ _
  go_wp2
  go_ret
  exact ⟨rfl, hHeld2.2.2.1⟩
end Go.Proofs.Qxb6612294a
