import Derived.Test.Qxb6612294aLaw4a
namespace Go.Proofs.Qxb6612294a
open Go.RowKit

theorem Lies.keys {w w' : World} {b : Nat} {H : Nat → Bool} {a : Option Addr} {n : Nat} {ks : Nat → Int} (h : Lies w b H a n ks w') : Keys w' a n ks := h.2.1
theorem Lies.alloc {w w' : World} {b : Nat} {H : Nat → Bool} {a : Option Addr} {n : Nat} {ks : Nat → Int} (h : Lies w b H a n ks w') (o : Obj) : Lies w b H a n ks (w'.alloc o) :=
  keepS h ((Below.refl _ _).alloc (Nat.le_refl _) _)

/-- rev behind k rounds -/
def revTo (ks : Nat → Int) (n k : Nat) : Nat → Int := fun j => if n ≤ j + k then ks (n - 1 - j) else 0
theorem revTo_step (ks : Nat → Int) (n k : Nat) (hk : k < n) : (nums (revTo ks n k) n).setIfInBounds (n - 1 - k) (.int .i64 (ks k)) = nums (revTo ks n (k + 1)) n := by
  refine nums_set (fun j hj => ?_)
  unfold revTo
  by_cases e : j = n - 1 - k
  · rw [if_pos e, if_pos (by omega), show n - 1 - j = k by omega]
  · rw [if_neg e]
    by_cases h2 : n ≤ j + k
    · rw [if_pos h2, if_pos (by omega)]
    · rw [if_neg h2, if_neg (by omega)]
theorem revTo_end (ks : Nat → Int) (n : Nat) : nums (revTo ks n n) n = nums (fun j => ks (n - 1 - j)) n :=
  nums_congr (fun j hj => by unfold revTo; rw [if_pos (by omega)])

/-- grown behind k rounds -/
def growTo (ks : Nat → Int) (k : Nat) : Nat → Int := fun j => if j < k then ks j else 0
theorem growTo_step (ks : Nat → Int) (n k : Nat) : (nums (growTo ks k) (n + 1)).setIfInBounds k (.int .i64 (ks k)) = nums (growTo ks (k + 1)) (n + 1) := by
  refine nums_set (fun j hj => ?_)
  unfold growTo
  by_cases e : j = k
  · rw [if_pos e, if_pos (by omega), e]
  · rw [if_neg e]
    by_cases h2 : j < k
    · rw [if_pos h2, if_pos (by omega)]
    · rw [if_neg h2, if_neg (by omega)]
theorem growTo_end (ks : Nat → Int) (n : Nat) (x : Int) : (nums (growTo ks n) (n + 1)).setIfInBounds n (.int .i64 x) = nums (snocK ks n x) (n + 1) := by
  refine nums_set (fun j hj => ?_)
  unfold growTo snocK
  by_cases e : j = n
  · rw [if_pos e, if_pos e]
  · rw [if_neg e, if_neg e, if_pos (by omega)]
theorem zero22 (w : World) : (zeroValue 22).run Try.prog w = .ok (.agg (flags (fun _ => false) 385)) w := by kernel_rfl
theorem hl_flags (H : Nat → Bool) : (hl H).toArray = flags H 385 := rfl
theorem flags_setH (H : Nat → Bool) (i : Nat) : (flags H 385).setIfInBounds i (.bool true) = flags (setH H i) 385 := flags_set _ _ _ _ (fun _ _ => rfl)
/-- 'more := held': the array, whole, into the variable that has just been laid -/
theorem wpList_store_new (W : World) (H : Nat → Bool) {ops : Array Oper} {rest : List Oper} {o : Oper} {a : Act} {Q : Exit → Act → World → Prop} (hgd : o.guard = none) (x y : Operand) (ho : o.op = .store 22 x y)
    (g : Nat) (hg : g = W.heap.size) (hx : a.eval x = .pointer (some ⟨g, 0, none⟩)) (hy : a.eval y = .agg (hl H).toArray)
    (h : wpList Try.prog ops Q rest (a.put o.dst undef) (W.alloc (.cells (flags H 385) 22))) : wpList Try.prog ops Q (o :: rest) a (W.alloc (.cells (flags (fun _ => false) 385) 22)) := by
  subst hg
  refine wpList_store_row hgd 22 x y ho W.heap.size (hl H).toArray hx hy 22 (flags (fun _ => false) 385) (heap_alloc_new W _) (by simpa [hl_length] using info22) (by simp [flags_size, hl_length]) (all_oneCell_toArray (hl_one H)) ?_
  rw [setRow_new]
  exact h
theorem range_flags (W : World) (H : Nat → Bool) : (W.alloc (.cells (flags H 385) 22)).rangeAt W.heap.size 0 (hl H) := range_one W H

set_option maxHeartbeats 2000000 in
set_option maxRecDepth 100000 in
theorem law4_some (H : Nat → Bool) (y : Addr) (n c i : Nat) (x : Int) (ks : Nat → Int) (hn : n ≤ 65536) (hi385 : i < 385) (hxw : (Lit.int .i64 x).wf = true) (hwf : ∀ j, j < n → (Lit.int .i64 (ks j)).wf = true) (w : World) (hk : Keys w (some y) n ks) :
    Calls Try.prog 4 #[.agg (hl H).toArray, .slice (some y) n c, .int .i64 i, .int .i64 x] w fun e w' => e = .returned (.bool true) ∧ Below w.heap.size w w' := by
  have HK : Hid (Keys w (some y) n ks) := hk
  have HW : Hid (∀ j, j < n → (Lit.int .i64 (ks j)).wf = true) := hwf
  clear hk hwf
  have hi : (Try.prog.info? 22).map (·.size) = some (hl H).length := by rw [hl_length]; exact info22
  have hr := range_one w H
  have hq := fun wx => run_neq_slice_nil_any (P := Try.prog) wx 23 2 (some y) n c 0 0 Try.underlying23
  have hmk := run_mk n (by omega)
  have hS : Lies w w.heap.size H (some ⟨w.heap.size + 1 + 1, 0, none⟩) n ks (((w.alloc (.cells (hl H).toArray 22)).alloc (.cells (hl H).toArray 22)).alloc (.cells (kl ks n).toArray 2)) :=
    ⟨World.rangeAt_alloc (range_new w H _) _, by simpa using Keys.copied ((w.alloc (.cells (hl H).toArray 22)).alloc (.cells (hl H).toArray 22)) ks n HW.out, (((Below.refl _ _).alloc (Nat.le_refl _) _).alloc (by simp) _).alloc (by simp; omega) _, by simp; omega⟩
  have hr2 := hS.1
  have HS : Hid (Lies w w.heap.size H (some ⟨w.heap.size + 1 + 1, 0, none⟩) n ks (((w.alloc (.cells (hl H).toArray 22)).alloc (.cells (hl H).toArray 22)).alloc (.cells (kl ks n).toArray 2))) := hS
  clear hS
  go_enter Try.func4, Try.ntmps4
  go_wp2_with (first
    | (with_reducible show wpList _ _ _ (Oper.mk _ (Op.load 22 _) _ _ _ _ :: _) _ _; refine wpList_load_mid rfl 22 _ rfl w.heap.size 0 rfl (hl H) _ (by first | exact hr | exact hr2) Try.underlying22 rfl hi ?_)
    | (go_at_call 8; refine (bytes8_yes H (some y) n c i x (by omega) _).mono ?_; rintro e w' ⟨rfl, rfl⟩)
    | (with_reducible show wpList _ _ _ (Oper.mk _ (Op.call _) _ _ _ _ :: _) _ _; refine wpList_copy_new ((w.alloc (.cells (hl H).toArray 22)).alloc (.cells (hl H).toArray 22)) rfl _ _ rfl _ (by simp) n (some y) c ks rfl rfl (HK.out.below (((Below.refl _ _).alloc (Nat.le_refl _) _).alloc (by simp) _)) ?_))
  clear hr hr2 hq hmk
  refine (zzcounts_any H (some ⟨w.heap.size + 1 + 1, 0, none⟩) n n ks (by omega) _ HS.out.keys).mono ?_
  rintro e w1 ⟨rfl, hb1⟩
  have HS1 : Hid (Lies w w.heap.size H (some ⟨w.heap.size + 1 + 1, 0, none⟩) n ks w1) := keepS HS.out hb1
  clear hb1 HS
  generalize hbef : cntB H (fun m => isIn ks n (mkKey m)) = before
  have HBef : Hid (cntB H (fun m => isIn ks n (mkKey m)) = before) := hbef
  clear hbef
  have hmk := run_mkn n (by omega)
  go_wp2_with fail
  clear hmk
  go_loopw [12] (fun t wr => ∃ k : Nat, k ≤ n ∧ t = .int .i64 k ∧ wr = w1.alloc (.cells (nums (revTo ks n k) n) 2)) (fun t _ => n - (intOf t).toNat)
  case atStart => exact ⟨0, Nat.zero_le _, rfl, by rw [nums_congr (f := revTo ks n 0) (g := fun _ => 0) (fun j hj => by unfold revTo; rw [if_neg (by omega)])]⟩
  case round =>
    obtain ⟨k, hk, rfl, rfl⟩ := hrel
    by_cases hlt : k < n
    · obtain ⟨kb, koff, e0, hcells, _⟩ := HS1.out.keys (by omega)
      injection e0 with e0
      injection e0 with e1 e2
      subst e1; subst e2
      have hc := hcells k hlt
      rw [Nat.zero_add] at hc
      have hblt : w.heap.size + 1 + 1 < w1.heap.size := block_lt_of_cell hc
      clear hcells
      have HE : Hid ((nums (revTo ks n k) n).setIfInBounds (n - 1 - k) (.int .i64 (ks k)) = nums (revTo ks n (k + 1)) n) := revTo_step ks n k hlt
      obtain ⟨ov, hold⟩ : ∃ ov, (nums (revTo ks n k) n)[n - 1 - k]? = some ov := ⟨_, nums_get _ n _ (by omega)⟩
      go_wp2
      go_roundw
      case rel => exact ⟨k + 1, by omega, by go_num, by rw [HE.out]⟩
      case measure => simp [intOf]; omega
    · obtain rfl : k = n := by omega
      clear hk hlt
      rw [revTo_end]
      have HS2 : Hid (Lies w w.heap.size H (some ⟨w.heap.size + 1 + 1, 0, none⟩) k ks (w1.alloc (.cells (nums (fun j => ks (k - 1 - j)) k) 2))) := HS1.out.alloc _
      have hr := HS2.out.1
      go_wp2_with (first
        | (with_reducible show wpList _ _ _ (Oper.mk _ (Op.load 22 _) _ _ _ _ :: _) _ _; refine wpList_load_mid rfl 22 _ rfl w.heap.size 0 rfl (hl H) _ hr Try.underlying22 rfl hi ?_))
      clear hr
      refine (zzcounts_any H (some ⟨w1.heap.size, 0, none⟩) k k (fun j => ks (k - 1 - j)) (by omega) _ (Keys.nums w1 _ k (fun j hj => HW.out _ (by omega)))).mono ?_
      rintro e w2 ⟨he, hb2⟩
      have hrev : cntB H (fun m => isIn (fun j => ks (k - 1 - j)) k (mkKey m)) = before := by simp only [isIn_rev]; exact HBef.out
      rw [hrev] at he
      subst he
      clear hrev
      have HS3 : Hid (Lies w w.heap.size H (some ⟨w.heap.size + 1 + 1, 0, none⟩) k ks w2) := keepS HS2.out hb2
      clear hb2 HS2 HS1
      have hr := HS3.out.1
      have hz := zero22
      have hset := flags_setH H i
      have hmk : ∀ w, (Instr.makeSlice 23 (.int .i64 ((k : Int) + 1)) (.int .i64 ((k : Int) + 1))).run Try.prog w = .ok (.slice (some ⟨w.heap.size, 0, none⟩) (k + 1) (k + 1)) (w.alloc (.cells (nums (fun _ => 0) (k + 1)) 2)) := run_mkn (k + 1) (by omega)
      obtain ⟨ov, hold⟩ : ∃ ov, (flags H 385)[i]? = some ov := ⟨_, flags_get H 385 i hi385⟩
      go_wp2_with (first
        | (with_reducible show wpList _ _ _ (Oper.mk _ (Op.load 22 _) _ _ _ _ :: _) _ _; refine wpList_load_mid rfl 22 _ rfl w.heap.size 0 rfl (hl H) _ hr Try.underlying22 rfl hi ?_)
        | (with_reducible show wpList _ _ _ (Oper.mk _ (Op.store 22 _ _) _ _ _ _ :: _) _ _; refine wpList_store_new w2 H rfl _ _ rfl _ rfl rfl rfl ?_))
      clear hr hz hset hmk hold
      go_loopw [15] (fun t wr => ∃ m : Nat, m ≤ k ∧ t = .int .i64 m ∧ wr = (w2.alloc (.cells (flags (setH H i) 385) 22)).alloc (.cells (nums (growTo ks m) (k + 1)) 2)) (fun t _ => k - (intOf t).toNat)
      case atStart => exact ⟨0, Nat.zero_le _, rfl, rfl⟩
      case round =>
        obtain ⟨m, hm, rfl, rfl⟩ := hrel
        by_cases hlt : m < k
        · obtain ⟨kb, koff, e0, hcells, _⟩ := HS3.out.keys (by omega)
          injection e0 with e0
          injection e0 with e1 e2
          subst e1; subst e2
          have hc := hcells m hlt
          rw [Nat.zero_add] at hc
          have hblt : w.heap.size + 1 + 1 < w2.heap.size := block_lt_of_cell hc
          have hblt1 : w.heap.size + 1 + 1 < w2.heap.size + 1 := by omega
          clear hcells
          have HE : Hid ((nums (growTo ks m) (k + 1)).setIfInBounds m (.int .i64 (ks m)) = nums (growTo ks (m + 1)) (k + 1)) := growTo_step ks k m
          obtain ⟨ov, hold⟩ : ∃ ov, (nums (growTo ks m) (k + 1))[m]? = some ov := ⟨_, nums_get _ (k + 1) _ (by omega)⟩
          go_wp2
          go_roundw
          case rel => exact ⟨m + 1, by omega, by go_num, by rw [HE.out]⟩
          case measure => simp [intOf]; omega
        · obtain rfl : m = k := by omega
          clear hm hlt
          have hend := growTo_end ks m x
          obtain ⟨ov, hold⟩ : ∃ ov, (nums (growTo ks m) (m + 1))[m]? = some ov := ⟨_, nums_get _ (m + 1) _ (by omega)⟩
          have hi' : (Try.prog.info? 22).map (·.size) = some (hl (setH H i)).length := by rw [hl_length]; exact info22
          have hr : ((w2.alloc (.cells (flags (setH H i) 385) 22)).alloc (.cells (nums (snocK ks m x) (m + 1)) 2)).rangeAt w2.heap.size 0 (hl (setH H i)) := World.rangeAt_alloc (range_flags w2 _) _
          have hkeys : Keys ((w2.alloc (.cells (flags (setH H i) 385) 22)).alloc (.cells (nums (snocK ks m x) (m + 1)) 2)) (some ⟨w2.heap.size + 1, 0, none⟩) (m + 1) (snocK ks m x) := by
            have := Keys.nums (w2.alloc (.cells (flags (setH H i) 385) 22)) (snocK ks m x) (m + 1) (fun j hj => by
              unfold snocK
              split
              · exact hxw
              · exact HW.out j (by omega))
            simpa using this
          have HS4 : Hid (Lies w w2.heap.size (setH H i) (some ⟨w2.heap.size + 1, 0, none⟩) (m + 1) (snocK ks m x) ((w2.alloc (.cells (flags (setH H i) 385) 22)).alloc (.cells (nums (snocK ks m x) (m + 1)) 2))) :=
            ⟨hr, hkeys, (HS3.out.2.2.1.alloc HS3.out.2.2.1.size _).alloc (by have := HS3.out.2.2.1.size; simp; omega) _, by simp; omega⟩
          clear hkeys
          go_wp2_with (first
            | (with_reducible show wpList _ _ _ (Oper.mk _ (Op.load 22 _) _ _ _ _ :: _) _ _; refine wpList_load_mid rfl 22 _ rfl w2.heap.size 0 rfl (hl (setH H i)) _ hr Try.underlying22 rfl hi' ?_))
          clear hr hend hold
          refine (zzcounts_any (setH H i) (some ⟨w2.heap.size + 1, 0, none⟩) (m + 1) (m + 1) (snocK ks m x) (by omega) _ HS4.out.keys).mono ?_
          rintro e w3 ⟨rfl, hb3⟩
          have HS5 : Hid (Lies w w2.heap.size (setH H i) (some ⟨w2.heap.size + 1, 0, none⟩) (m + 1) (snocK ks m x) w3) := keepS HS4.out hb3
          clear hb3 HS4 HS3
          have hr := HS5.out.1
          have hmono : before = true → cntB (setH H i) (fun j => isIn (snocK ks m x) (m + 1) (mkKey j)) = true := fun hb => cntB_mono (by rw [HBef.out]; exact hb)
          have hmod := model_any (setH H i) (some ⟨w2.heap.size + 1, 0, none⟩) (m + 1) (m + 1) (snocK ks m x) (by omega) w3 HS5.out.keys
          generalize cntB (setH H i) (fun j => isIn (snocK ks m x) (m + 1) (mkKey j)) = after at *
          have HMod : Hid (Calls Try.prog 7 #[.agg (hl (setH H i)).toArray, .slice (some ⟨w2.heap.size + 1, 0, none⟩) (m + 1) (m + 1)] w3 fun e w' => e = .returned (.bool after) ∧ Below w3.heap.size w3 w') := hmod
          clear hmod HBef
          cases before
          · clear hmono
            go_wp2_with (first
              | (with_reducible show wpList _ _ _ (Oper.mk _ (Op.load 22 _) _ _ _ _ :: _) _ _; refine wpList_load_mid rfl 22 _ rfl w2.heap.size 0 rfl (hl (setH H i)) _ hr Try.underlying22 rfl hi' ?_))
            refine HMod.out.mono ?_
            rintro e w4 ⟨rfl, hb4⟩
            have HB4 : Hid (Lies w w2.heap.size (setH H i) (some ⟨w2.heap.size + 1, 0, none⟩) (m + 1) (snocK ks m x) w4) := keepS HS5.out hb4
            clear hb4 hr
            go_wp2
            go_ret
            exact ⟨rfl, HB4.out.2.2.1⟩
          · obtain rfl : after = true := hmono rfl
            clear hmono
            go_wp2_with (first
              | (with_reducible show wpList _ _ _ (Oper.mk _ (Op.load 22 _) _ _ _ _ :: _) _ _; refine wpList_load_mid rfl 22 _ rfl w2.heap.size 0 rfl (hl (setH H i)) _ hr Try.underlying22 rfl hi' ?_))
            refine HMod.out.mono ?_
            rintro e w4 ⟨rfl, hb4⟩
            have HB4 : Hid (Lies w w2.heap.size (setH H i) (some ⟨w2.heap.size + 1, 0, none⟩) (m + 1) (snocK ks m x) w4) := keepS HS5.out hb4
            clear hb4 hr
            go_wp2
            go_ret
            exact ⟨rfl, HB4.out.2.2.1⟩
set_option maxHeartbeats 2000000 in
set_option maxRecDepth 100000 in
theorem law4_nil (H : Nat → Bool) (n c i : Nat) (x : Int) (ks : Nat → Int) (hn : n ≤ 0) (hi385 : i < 385) (hxw : (Lit.int .i64 x).wf = true) (hwf : ∀ j, j < n → (Lit.int .i64 (ks j)).wf = true) (w : World) :
    Calls Try.prog 4 #[.agg (hl H).toArray, .slice none n c, .int .i64 i, .int .i64 x] w fun e w' => e = .returned (.bool true) ∧ Below w.heap.size w w' := by
  have HW : Hid (∀ j, j < n → (Lit.int .i64 (ks j)).wf = true) := hwf
  clear hwf
  have hi : (Try.prog.info? 22).map (·.size) = some (hl H).length := by rw [hl_length]; exact info22
  have hr := range_one w H
  have hq := fun wx => run_neq_slice_nil_any (P := Try.prog) wx 23 2 none n c 0 0 Try.underlying23
  have hS : Lies w w.heap.size H none n ks ((w.alloc (.cells (hl H).toArray 22)).alloc (.cells (hl H).toArray 22)) :=
    ⟨range_new w H _, fun h => by omega, ((Below.refl _ _).alloc (Nat.le_refl _) _).alloc (by simp) _, by simp; omega⟩
  have hr2 := hS.1
  have HS : Hid (Lies w w.heap.size H none n ks ((w.alloc (.cells (hl H).toArray 22)).alloc (.cells (hl H).toArray 22))) := hS
  clear hS
  go_enter Try.func4, Try.ntmps4
  go_wp2_with (first
    | (with_reducible show wpList _ _ _ (Oper.mk _ (Op.load 22 _) _ _ _ _ :: _) _ _; refine wpList_load_mid rfl 22 _ rfl w.heap.size 0 rfl (hl H) _ (by first | exact hr | exact hr2) Try.underlying22 rfl hi ?_)
    | (go_at_call 8; refine (bytes8_yes H none n c i x (by omega) _).mono ?_; rintro e w' ⟨rfl, rfl⟩))
  clear hr hr2 hq
  refine (zzcounts_any H none n c ks (by omega) _ HS.out.keys).mono ?_
  rintro e w1 ⟨rfl, hb1⟩
  have HS1 : Hid (Lies w w.heap.size H none n ks w1) := keepS HS.out hb1
  clear hb1 HS
  generalize hbef : cntB H (fun m => isIn ks n (mkKey m)) = before
  have HBef : Hid (cntB H (fun m => isIn ks n (mkKey m)) = before) := hbef
  clear hbef
  have hmk := run_mkn n (by omega)
  go_wp2_with fail
  clear hmk
  go_loopw [12] (fun t wr => ∃ k : Nat, k ≤ n ∧ t = .int .i64 k ∧ wr = w1.alloc (.cells (nums (revTo ks n k) n) 2)) (fun t _ => n - (intOf t).toNat)
  case atStart => exact ⟨0, Nat.zero_le _, rfl, by rw [nums_congr (f := revTo ks n 0) (g := fun _ => 0) (fun j hj => by unfold revTo; rw [if_neg (by omega)])]⟩
  case round =>
    obtain ⟨k, hk, rfl, rfl⟩ := hrel
    by_cases hlt : k < n
    · exact absurd hlt (by omega)
    · obtain rfl : k = n := by omega
      clear hk hlt
      rw [revTo_end]
      have HS2 : Hid (Lies w w.heap.size H none k ks (w1.alloc (.cells (nums (fun j => ks (k - 1 - j)) k) 2))) := HS1.out.alloc _
      have hr := HS2.out.1
      go_wp2_with (first
        | (with_reducible show wpList _ _ _ (Oper.mk _ (Op.load 22 _) _ _ _ _ :: _) _ _; refine wpList_load_mid rfl 22 _ rfl w.heap.size 0 rfl (hl H) _ hr Try.underlying22 rfl hi ?_))
      clear hr
      refine (zzcounts_any H (some ⟨w1.heap.size, 0, none⟩) k k (fun j => ks (k - 1 - j)) (by omega) _ (Keys.nums w1 _ k (fun j hj => HW.out _ (by omega)))).mono ?_
      rintro e w2 ⟨he, hb2⟩
      have hrev : cntB H (fun m => isIn (fun j => ks (k - 1 - j)) k (mkKey m)) = before := by simp only [isIn_rev]; exact HBef.out
      rw [hrev] at he
      subst he
      clear hrev
      have HS3 : Hid (Lies w w.heap.size H none k ks w2) := keepS HS2.out hb2
      clear hb2 HS2 HS1
      have hr := HS3.out.1
      have hz := zero22
      have hset := flags_setH H i
      have hmk : ∀ w, (Instr.makeSlice 23 (.int .i64 ((k : Int) + 1)) (.int .i64 ((k : Int) + 1))).run Try.prog w = .ok (.slice (some ⟨w.heap.size, 0, none⟩) (k + 1) (k + 1)) (w.alloc (.cells (nums (fun _ => 0) (k + 1)) 2)) := run_mkn (k + 1) (by omega)
      obtain ⟨ov, hold⟩ : ∃ ov, (flags H 385)[i]? = some ov := ⟨_, flags_get H 385 i hi385⟩
      go_wp2_with (first
        | (with_reducible show wpList _ _ _ (Oper.mk _ (Op.load 22 _) _ _ _ _ :: _) _ _; refine wpList_load_mid rfl 22 _ rfl w.heap.size 0 rfl (hl H) _ hr Try.underlying22 rfl hi ?_)
        | (with_reducible show wpList _ _ _ (Oper.mk _ (Op.store 22 _ _) _ _ _ _ :: _) _ _; refine wpList_store_new w2 H rfl _ _ rfl _ rfl rfl rfl ?_))
      clear hr hz hset hmk hold
      go_loopw [15] (fun t wr => ∃ m : Nat, m ≤ k ∧ t = .int .i64 m ∧ wr = (w2.alloc (.cells (flags (setH H i) 385) 22)).alloc (.cells (nums (growTo ks m) (k + 1)) 2)) (fun t _ => k - (intOf t).toNat)
      case atStart => exact ⟨0, Nat.zero_le _, rfl, rfl⟩
      case round =>
        obtain ⟨m, hm, rfl, rfl⟩ := hrel
        by_cases hlt : m < k
        · exact absurd hlt (by omega)
        · obtain rfl : m = k := by omega
          clear hm hlt
          have hend := growTo_end ks m x
          obtain ⟨ov, hold⟩ : ∃ ov, (nums (growTo ks m) (m + 1))[m]? = some ov := ⟨_, nums_get _ (m + 1) _ (by omega)⟩
          have hi' : (Try.prog.info? 22).map (·.size) = some (hl (setH H i)).length := by rw [hl_length]; exact info22
          have hr : ((w2.alloc (.cells (flags (setH H i) 385) 22)).alloc (.cells (nums (snocK ks m x) (m + 1)) 2)).rangeAt w2.heap.size 0 (hl (setH H i)) := World.rangeAt_alloc (range_flags w2 _) _
          have hkeys : Keys ((w2.alloc (.cells (flags (setH H i) 385) 22)).alloc (.cells (nums (snocK ks m x) (m + 1)) 2)) (some ⟨w2.heap.size + 1, 0, none⟩) (m + 1) (snocK ks m x) := by
            have := Keys.nums (w2.alloc (.cells (flags (setH H i) 385) 22)) (snocK ks m x) (m + 1) (fun j hj => by
              unfold snocK
              split
              · exact hxw
              · exact HW.out j (by omega))
            simpa using this
          have HS4 : Hid (Lies w w2.heap.size (setH H i) (some ⟨w2.heap.size + 1, 0, none⟩) (m + 1) (snocK ks m x) ((w2.alloc (.cells (flags (setH H i) 385) 22)).alloc (.cells (nums (snocK ks m x) (m + 1)) 2))) :=
            ⟨hr, hkeys, (HS3.out.2.2.1.alloc HS3.out.2.2.1.size _).alloc (by have := HS3.out.2.2.1.size; simp; omega) _, by simp; omega⟩
          clear hkeys
          go_wp2_with (first
            | (with_reducible show wpList _ _ _ (Oper.mk _ (Op.load 22 _) _ _ _ _ :: _) _ _; refine wpList_load_mid rfl 22 _ rfl w2.heap.size 0 rfl (hl (setH H i)) _ hr Try.underlying22 rfl hi' ?_))
          clear hr hend hold
          refine (zzcounts_any (setH H i) (some ⟨w2.heap.size + 1, 0, none⟩) (m + 1) (m + 1) (snocK ks m x) (by omega) _ HS4.out.keys).mono ?_
          rintro e w3 ⟨rfl, hb3⟩
          have HS5 : Hid (Lies w w2.heap.size (setH H i) (some ⟨w2.heap.size + 1, 0, none⟩) (m + 1) (snocK ks m x) w3) := keepS HS4.out hb3
          clear hb3 HS4 HS3
          have hr := HS5.out.1
          have hmono : before = true → cntB (setH H i) (fun j => isIn (snocK ks m x) (m + 1) (mkKey j)) = true := fun hb => cntB_mono (by rw [HBef.out]; exact hb)
          have hmod := model_any (setH H i) (some ⟨w2.heap.size + 1, 0, none⟩) (m + 1) (m + 1) (snocK ks m x) (by omega) w3 HS5.out.keys
          generalize cntB (setH H i) (fun j => isIn (snocK ks m x) (m + 1) (mkKey j)) = after at *
          have HMod : Hid (Calls Try.prog 7 #[.agg (hl (setH H i)).toArray, .slice (some ⟨w2.heap.size + 1, 0, none⟩) (m + 1) (m + 1)] w3 fun e w' => e = .returned (.bool after) ∧ Below w3.heap.size w3 w') := hmod
          clear hmod HBef
          cases before
          · clear hmono
            go_wp2_with (first
              | (with_reducible show wpList _ _ _ (Oper.mk _ (Op.load 22 _) _ _ _ _ :: _) _ _; refine wpList_load_mid rfl 22 _ rfl w2.heap.size 0 rfl (hl (setH H i)) _ hr Try.underlying22 rfl hi' ?_))
            refine HMod.out.mono ?_
            rintro e w4 ⟨rfl, hb4⟩
            have HB4 : Hid (Lies w w2.heap.size (setH H i) (some ⟨w2.heap.size + 1, 0, none⟩) (m + 1) (snocK ks m x) w4) := keepS HS5.out hb4
            clear hb4 hr
            go_wp2
            go_ret
            exact ⟨rfl, HB4.out.2.2.1⟩
          · obtain rfl : after = true := hmono rfl
            clear hmono
            go_wp2_with (first
              | (with_reducible show wpList _ _ _ (Oper.mk _ (Op.load 22 _) _ _ _ _ :: _) _ _; refine wpList_load_mid rfl 22 _ rfl w2.heap.size 0 rfl (hl (setH H i)) _ hr Try.underlying22 rfl hi' ?_))
            refine HMod.out.mono ?_
            rintro e w4 ⟨rfl, hb4⟩
            have HB4 : Hid (Lies w w2.heap.size (setH H i) (some ⟨w2.heap.size + 1, 0, none⟩) (m + 1) (snocK ks m x) w4) := keepS HS5.out hb4
            clear hb4 hr
            go_wp2
            go_ret
            exact ⟨rfl, HB4.out.2.2.1⟩
end Go.Proofs.Qxb6612294a
