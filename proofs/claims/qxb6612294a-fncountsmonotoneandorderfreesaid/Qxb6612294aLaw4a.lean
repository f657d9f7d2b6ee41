import Derived.Test.Qxb6612294aLaw3
namespace Go.Proofs.Qxb6612294a
open Go.RowKit

/-! ### the plain laws -/
theorem isIn_iff (ks : Nat → Int) (n : Nat) (x : Int) : isIn ks n x = true ↔ ∃ j, j < n ∧ ks j = x := by
  simp [isIn]
theorem isIn_rev (ks : Nat → Int) (n : Nat) (x : Int) : isIn (fun j => ks (n - 1 - j)) n x = isIn ks n x := by
  rw [Bool.eq_iff_iff, isIn_iff, isIn_iff]
  constructor
  · rintro ⟨j, hj, e⟩; exact ⟨n - 1 - j, by omega, e⟩
  · rintro ⟨j, hj, e⟩; exact ⟨n - 1 - j, by omega, by show ks (n - 1 - (n - 1 - j)) = x; rw [show n - 1 - (n - 1 - j) = j by omega]; exact e⟩
/-- one interval more -/
def setH (H : Nat → Bool) (i : Nat) : Nat → Bool := fun j => if j = i then true else H j
/-- one key more -/
def snocK (ks : Nat → Int) (n : Nat) (x : Int) : Nat → Int := fun j => if j = n then x else ks j
theorem isIn_snoc {ks : Nat → Int} {n : Nat} {x y : Int} (h : isIn ks n y = true) : isIn (snocK ks n x) (n + 1) y = true := by
  obtain ⟨j, hj, e⟩ := (isIn_iff ks n y).1 h
  exact (isIn_iff _ _ _).2 ⟨j, by omega, by unfold snocK; rw [if_neg (by omega)]; exact e⟩
theorem cnt_mono (H : Nat → Bool) (i k : Nat) : cnt H k ≤ cnt (setH H i) k := by
  induction k with
  | zero => exact Nat.le_refl _
  | succ k ih =>
    simp only [cnt]
    have : (if H k = true then 1 else 0) ≤ (if setH H i k = true then 1 else 0) := by
      unfold setH
      by_cases e : k = i
      · simp [e]; split <;> omega
      · simp [e]
    omega
theorem winOk_mono {H : Nat → Bool} {i k : Nat} (h : winOk H k = true) : winOk (setH H i) k = true := by
  unfold winOk anyIn at h ⊢
  rw [List.any_eq_true] at h ⊢
  obtain ⟨j, hj, e⟩ := h
  refine ⟨j, hj, ?_⟩
  unfold setH
  split
  · rfl
  · exact e
theorem cntB_mono {H : Nat → Bool} {i n : Nat} {ks : Nat → Int} {x : Int} (h : cntB H (fun m => isIn ks n (mkKey m)) = true) : cntB (setH H i) (fun m => isIn (snocK ks n x) (n + 1) (mkKey m)) = true := by
  unfold cntB at h
  simp only [Bool.and_eq_true, decide_eq_true_eq, List.all_eq_true, List.mem_range] at h
  obtain ⟨⟨h1, h2⟩, h3⟩ := h
  refine cntB_yes (by have := cnt_mono H i 385; omega) (fun k hk => winOk_mono (h2 k hk)) (fun k hk => isIn_snoc (h3 k hk))

/-! ### rows of numbers -/
def nums (f : Nat → Int) (n : Nat) : Array Value := (kl f n).toArray
theorem nums_size (f : Nat → Int) (n : Nat) : (nums f n).size = n := by simp [nums, kl_length]
theorem nums_get (f : Nat → Int) (n j : Nat) (h : j < n) : (nums f n)[j]? = some (.int .i64 (f j)) := by
  have := kl_get f n j h
  simpa [nums] using this
theorem nums_ext {c : Array Value} {f : Nat → Int} {n : Nat} (hs : c.size = n) (h : ∀ j, j < n → c[j]? = some (.int .i64 (f j))) : c = nums f n := by
  apply Array.ext_getElem?
  intro j
  by_cases hj : j < n
  · rw [h j hj, nums_get f n j hj]
  · have h1 : c[j]? = none := by simp; omega
    have h2 : (nums f n)[j]? = none := by simp [nums_size]; omega
    rw [h1, h2]
theorem nums_set {f g : Nat → Int} {n i : Nat} {x : Int} (h : ∀ j, j < n → g j = if j = i then x else f j) : (nums f n).setIfInBounds i (.int .i64 x) = nums g n := by
  refine nums_ext (by simp [nums_size]) (fun j hj => ?_)
  rw [Array.getElem?_setIfInBounds, h j hj]
  by_cases e : i = j
  · subst e; simp [nums_size, hj]
  · rw [if_neg e, nums_get f n j hj, if_neg (fun e' => e e'.symm)]
theorem nums_congr {f g : Nat → Int} {n : Nat} (h : ∀ j, j < n → f j = g j) : nums f n = nums g n :=
  nums_ext (nums_size _ _) (fun j hj => by rw [nums_get f n j hj, h j hj])
theorem mk0_nums (n : Nat) : mk0 n = nums (fun _ => 0) n := by
  refine nums_ext (mk0_size n) (fun j hj => ?_)
  unfold mk0
  simp [madeCells, hj, Nat.mod_one]
theorem run_mkn (n : Nat) (hn : n ≤ 1000000) (w : World) : (Instr.makeSlice 23 (.int .i64 (n : Int)) (.int .i64 (n : Int))).run Try.prog w = .ok (.slice (some ⟨w.heap.size, 0, none⟩) n n) (w.alloc (.cells (nums (fun _ => 0) n) 2)) := by
  rw [← mk0_nums]; exact run_mk n hn w
theorem Keys.nums (W : World) (ks : Nat → Int) (n : Nat) (hwf : ∀ j, j < n → (Lit.int .i64 (ks j)).wf = true) : Keys (W.alloc (.cells (nums ks n) 2)) (some ⟨W.heap.size, 0, none⟩) n ks := Keys.copied W ks n hwf

set_option maxHeartbeats 400000 in
set_option maxRecDepth 100000 in
theorem bytes8_yes (H : Nat → Bool) (a : Option Addr) (n c : Nat) (i x : Int) (hn : n ≤ 1048576) (w : World) :
    Calls Try.prog 8 #[.agg (hl H).toArray, .slice a n c, .int .i64 i, .int .i64 x] w fun e w' => e = .returned (.bool true) ∧ w' = w.alloc (.cells (hl H).toArray 22) := by
  go_enter Try.func8, Try.ntmps8
  go_wp2
  go_ret
  exact ⟨rfl, rfl⟩
set_option maxHeartbeats 400000 in
set_option maxRecDepth 100000 in
theorem bytes8_no (H : Nat → Bool) (a : Option Addr) (n c : Nat) (i x : Int) (hn : 1048576 < n) (hm : n ≤ maxLen) (w : World) :
    Calls Try.prog 8 #[.agg (hl H).toArray, .slice a n c, .int .i64 i, .int .i64 x] w fun e w' => e = .returned (.bool false) ∧ w' = w.alloc (.cells (hl H).toArray 22) := by
  unfold maxLen at hm
  go_enter Try.func8, Try.ntmps8
  go_wp2
  go_ret
  exact ⟨rfl, rfl⟩

set_option maxHeartbeats 1000000 in
set_option maxRecDepth 100000 in
/-- the ways on which nothing is reckoned -/
theorem law4_early (H : Nat → Bool) (a : Option Addr) (n c : Nat) (i x : Int) (hm : n ≤ maxLen) (hn : 65536 < n ∨ i < 0 ∨ 385 ≤ i) (w : World) :
    Calls Try.prog 4 #[.agg (hl H).toArray, .slice a n c, .int .i64 i, .int .i64 x] w fun e w' => e = .returned (.bool true) ∧ Below w.heap.size w w' := by
  have hi : (Try.prog.info? 22).map (·.size) = some (hl H).length := by rw [hl_length]; exact info22
  have hr := range_one w H
  unfold maxLen at hm
  by_cases hbig : 1048576 < n
  · clear hn
    go_enter Try.func4, Try.ntmps4
    go_wp2_with (first
      | (with_reducible show wpList _ _ _ (Oper.mk _ (Op.load _ _) _ _ _ _ :: _) _ _; refine wpList_load_mid rfl 22 _ rfl w.heap.size 0 rfl (hl H) _ hr Try.underlying22 rfl hi ?_)
      | (go_at_call 8; refine (bytes8_no H a n c i x hbig hm _).mono ?_; rintro e w' ⟨rfl, rfl⟩))
    go_ret
    exact ⟨rfl, ((Below.refl _ _).alloc (Nat.le_refl _) _).alloc (by simp) _⟩
  by_cases hb2 : 65536 < n
  · clear hn
    go_enter Try.func4, Try.ntmps4
    go_wp2_with (first
      | (with_reducible show wpList _ _ _ (Oper.mk _ (Op.load _ _) _ _ _ _ :: _) _ _; refine wpList_load_mid rfl 22 _ rfl w.heap.size 0 rfl (hl H) _ hr Try.underlying22 rfl hi ?_)
      | (go_at_call 8; refine (bytes8_yes H a n c i x (by omega) _).mono ?_; rintro e w' ⟨rfl, rfl⟩))
    go_ret
    exact ⟨rfl, ((Below.refl _ _).alloc (Nat.le_refl _) _).alloc (by simp) _⟩
  by_cases hi0 : i < 0
  · clear hn
    go_enter Try.func4, Try.ntmps4
    go_wp2_with (first
      | (with_reducible show wpList _ _ _ (Oper.mk _ (Op.load _ _) _ _ _ _ :: _) _ _; refine wpList_load_mid rfl 22 _ rfl w.heap.size 0 rfl (hl H) _ hr Try.underlying22 rfl hi ?_)
      | (go_at_call 8; refine (bytes8_yes H a n c i x (by omega) _).mono ?_; rintro e w' ⟨rfl, rfl⟩))
    go_ret
    exact ⟨rfl, ((Below.refl _ _).alloc (Nat.le_refl _) _).alloc (by simp) _⟩
  have hi1 : 385 ≤ i := by omega
  clear hn
  go_enter Try.func4, Try.ntmps4
  go_wp2_with (first
    | (with_reducible show wpList _ _ _ (Oper.mk _ (Op.load _ _) _ _ _ _ :: _) _ _; refine wpList_load_mid rfl 22 _ rfl w.heap.size 0 rfl (hl H) _ hr Try.underlying22 rfl hi ?_)
    | (go_at_call 8; refine (bytes8_yes H a n c i x (by omega) _).mono ?_; rintro e w' ⟨rfl, rfl⟩))
  go_ret
  exact ⟨rfl, ((Below.refl _ _).alloc (Nat.le_refl _) _).alloc (by simp) _⟩
end Go.Proofs.Qxb6612294a
