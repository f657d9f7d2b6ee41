import Derived.Test.Qxb6612294aCounts
namespace Go.Proofs.Qxb6612294a
open Go.RowKit

/-- what the map reads as behind k rounds -/
def dk (ks : Nat → Int) : Nat → DataW Unit
  | 0 => .map []
  | k + 1 => (dk ks k).put (.int .i64 (ks k)) (.agg [])
theorem dk_map (ks : Nat → Int) (k : Nat) : Maps.IsMap (dk ks k) := by
  induction k with
  | zero => exact Maps.isMap_empty
  | succ k ih => exact ih.put _ _
/-- x is among the first n keys -/
def isIn (ks : Nat → Int) (n : Nat) (x : Int) : Bool := (List.range n).any (fun j => ks j == x)
theorem has_dk (ks : Nat → Int) (n : Nat) (x : Int) : Maps.has (dk ks n) (.int .i64 x) = isIn ks n x := by
  induction n with
  | zero => rfl
  | succ n ih =>
    unfold isIn at ih ⊢
    rw [List.range_succ, List.any_append, ← ih]
    by_cases h : ks n = x
    · subst h
      simp only [dk, List.any_cons, List.any_nil]
      rw [Maps.has_put_same (k := .int .i64 (ks n)) (dk_map ks n) trivial]; simp
    · simp only [dk, List.any_cons, List.any_nil]
      rw [Maps.has_put_other (fun e => h (by injection e with _ e2; exact e2.symm))]
      simp [h]

theorem zeroME : ∃ Z : Array Value, Z.size = 2332 ∧ ∀ w, (zeroValue 48).run Try.prog w = .ok (.agg Z) w :=
  ⟨((Try.prog.info? 48).bind (·.zero)).elim #[] Value.cells, by kernel_rfl, fun w => by kernel_rfl⟩

/-- WHAT THE WALK IS TOLD OF THE KEYS: a slice of n numbers, ks j the j-th. -/
def Keys (w : World) (a : Option Addr) (n : Nat) (ks : Nat → Int) : Prop :=
  0 < n → ∃ b off, a = some ⟨b, off, none⟩ ∧ (∀ j, j < n → w.cell? ⟨b, off + j, none⟩ = some (.int .i64 (ks j))) ∧ ∀ j, j < n → (Lit.int .i64 (ks j)).wf = true

theorem run_makeMap49 (x : Int) (w : World) : (Instr.makeMap 49 (some (.int .i64 x))).run Try.prog w = .ok (.map (some w.heap.size)) (w.alloc (.map #[] 0)) := by
  simp [Instr.makeMap, run_underlying Try.underlying49, asInt, Result.andThen]
  rfl
theorem range_new (w : World) (H : Nat → Bool) (o : Obj) : ((w.alloc (.cells (hl H).toArray 22)).alloc o).rangeAt w.heap.size 0 (hl H) := by
  intro j v hv
  rw [Nat.zero_add, World.cell?_alloc2_first]
  simpa using hv
theorem there_new (w : World) (Z : Array Value) (hZ : Z.size = 2332) (o : Obj) (n : Nat) (hn : n ≤ 385) : ((w.alloc o).alloc (.cells Z 48)).there (w.heap.size + 1) 5 n := by
  intro j hj
  rw [World.cell?_alloc2_new, World.frozen?_alloc2_new]
  simp
  omega

/-- the world behind 'm.trades.held = held' -/
def base6 (w : World) (H : Nat → Bool) (Z : Array Value) : World := ((w.alloc (.cells (hl H).toArray 22)).alloc (.cells Z 48)).setCells (w.heap.size + 1) 5 (hl H)
theorem size_setCells (b : Nat) : ∀ (vs : List Value) (o : Nat) (w : World), (w.setCells b o vs).heap.size = w.heap.size
  | [], _, _ => rfl
  | v :: r, o, w => by rw [World.setCells, size_setCells b r]; simp [World.setCell]
theorem base6_size (w : World) (H : Nat → Bool) (Z : Array Value) : (base6 w H Z).heap.size = w.heap.size + 2 := by
  unfold base6; rw [size_setCells]; simp
theorem below_setCells {B : Nat} {a : World} (b : Nat) (hb : B ≤ b) : ∀ (vs : List Value) (o : Nat) (w : World), Below B a w → Below B a (w.setCells b o vs)
  | [], _, _, h => h
  | v :: r, o, w, h => by rw [World.setCells]; exact below_setCells b hb r (o + 1) _ (h.setCell hb v)
theorem base6_below (w : World) (H : Nat → Bool) (Z : Array Value) : Below w.heap.size w (base6 w H Z) :=
  below_setCells _ (by omega) _ _ _ (((Below.refl _ w).alloc (Nat.le_refl _) _).alloc (by simp) _)
theorem base6_range (w : World) (H : Nat → Bool) (Z : Array Value) (hZ : Z.size = 2332) : (base6 w H Z).rangeAt (w.heap.size + 1) 5 (hl H) :=
  World.rangeAt_setCells_same _ _ _ _ (there_new w Z hZ _ _ (by simp [hl_length]))
theorem range_below {w w' : World} {B b o : Nat} {cs : List Value} (h : w.rangeAt b o cs) (hb : Below B w w') (hlt : b < B) : w'.rangeAt b o cs :=
  fun j v hv => (hb.cell (p := ⟨b, o + j, none⟩) hlt).trans (h j v hv)

set_option maxHeartbeats 1000000 in
set_option maxRecDepth 100000 in
theorem zzcounts_any (H : Nat → Bool) (a : Option Addr) (n c : Nat) (ks : Nat → Int) (hn : n ≤ 1000000) (w : World) (hk : Keys w a n ks) :
    Calls Try.prog 6 #[.agg (hl H).toArray, .slice a n c] w fun e w' => e = .returned (.bool (cntB H (fun m => isIn ks n (mkKey m)))) ∧ Below w.heap.size w w' := by
  have HK : Hid (Keys w a n ks) := hk
  clear hk
  obtain ⟨Z, hZ, hb⟩ := zeroME
  have HZ : Hid (Z.size = 2332) := hZ
  have hi : (Try.prog.info? 22).map (·.size) = some (hl H).length := by rw [hl_length]; exact info22
  have hi' : (Try.prog.info? 22).map (·.size) = some (hl H).toArray.size := by simpa using hi
  have hr := range_new w H (.cells Z 48)
  have hth := there_new w Z hZ (.cells (hl H).toArray 22) (hl H).toArray.size (by simp [hl_length])
  have h1 := all_oneCell_toArray (hl_one H)
  have hmm := run_makeMap49
  have hsz : (((w.alloc (.cells (hl H).toArray 22)).alloc (.cells Z 48)).setCells (w.heap.size + 1) 5 (hl H)).heap.size = w.heap.size + 2 := base6_size w H Z
  go_enter Try.func6, Try.ntmps6
  go_wp2_with (first
    | (with_reducible show wpList _ _ _ (Oper.mk _ (Op.load _ _) _ _ _ _ :: _) _ _; refine wpList_load_mid rfl 22 _ rfl w.heap.size 0 rfl (hl H) _ hr Try.underlying22 rfl hi ?_)
    | (with_reducible show wpList _ _ _ (Oper.mk _ (Op.store _ _ _) _ _ _ _ :: _) _ _; refine wpList_store_mid rfl 22 _ _ rfl (w.heap.size + 1) 5 (hl H).toArray rfl rfl hth hi' h1 ?_))
  clear hr hth h1 hi hi' hmm hb hZ
  have hown0 : ((base6 w H Z).alloc (.map #[] 0)).ownsMap Try.prog 50 decElem (w.heap.size + 2) 0 (dk ks 0) := by
    have := World.ownsMap_made (base6 w H Z) Try.prog 50 decElem
    rw [base6_size] at this; exact this
  have hbel0 : Below (w.heap.size + 2) (base6 w H Z) ((base6 w H Z).alloc (.map #[] 0)) := (Below.refl _ _).alloc (by rw [base6_size]; exact Nat.le_refl _) _
  have HS : Hid ((((w.alloc (.cells (hl H).toArray 22)).alloc (.cells Z 48)).setCells (w.heap.size + 1) 5 (hl H)).heap.size = w.heap.size + 2) := hsz
  clear hsz
  go_loopw [21] (fun i wr => ∃ k : Nat, k ≤ n ∧ i = .int .i64 k ∧ wr.ownsMap Try.prog 50 decElem (w.heap.size + 2) k (dk ks k) ∧ Below (w.heap.size + 2) (base6 w H Z) wr) (fun i wr => n - (intOf i).toNat)
  case atStart => exact ⟨0, Nat.zero_le _, rfl, hown0, hbel0⟩
  case round =>
    clear hown0 hbel0
    obtain ⟨k, hkn, rfl, hown, hbel⟩ := hrel
    have HO : Hid (wr.ownsMap Try.prog 50 decElem (w.heap.size + 2) k (dk ks k)) := hown
    have HB : Hid (Below (w.heap.size + 2) (base6 w H Z) wr) := hbel
    clear hown hbel
    by_cases hlt : k < n
    · obtain ⟨kb, koff, rfl, hcells, hwf⟩ := HK.out (by omega)
      have hc0 := hcells k hlt
      have hblt := block_lt_of_cell hc0
      have hc1 : wr.cell? ⟨kb, koff + k, none⟩ = some (.int .i64 (ks k)) := by
        rw [HB.out.cell (p := ⟨kb, koff + k, none⟩) (by simp at hblt ⊢; omega), (base6_below w H Z).cell (p := ⟨kb, koff + k, none⟩) hblt]
        exact hc0
      have hwk := hwf k hlt
      clear hcells hwf hc0 hblt
      go_wp2_with (at_mapUpdate; refine wpList_mapUpdate_own _ rfl _ _ _ 49 rfl 50 46 law50 Try.underlying49 decElem (w.heap.size + 2) k _ rfl HO.out (by unfold maxLen; omega) _ _ _ rfl rfl (Maps.keyOf_int_mk Try.underlying50 hwk) (.agg []) [] decElem_zero ?_; intro w1 hown1 hgrow1)
      go_roundw
      case rel => exact ⟨k + 1, by omega, by go_num, hown1, HB.out.grown hgrow1 (by have := HB.out.size; rw [base6_size] at this; exact this) (fun j hj => by cases hj; exact Nat.le_refl _)⟩
      case measure => simp [intOf]; omega
    · obtain rfl : k = n := by omega
      go_wp2_with fail
      refine (counts_any H (w.heap.size + 1) (w.heap.size + 2) k (dk ks k) _ (range_below (base6_range w H Z HZ.out) HB.out (by omega)) HO.out).mono ?_
      rintro e w' ⟨rfl, hbel⟩
      have HB2 : Hid (Below wr.heap.size wr w') := hbel
      clear hbel
      go_wp2
      go_ret
      refine ⟨?_, ?_⟩
      · have e : (fun m => Maps.has (dk ks k) (.int .i64 (mkKey m))) = fun m => isIn ks k (mkKey m) := funext fun m => has_dk ks k (mkKey m)
        rw [e]; rfl
      · have hs := HB.out.size
        rw [base6_size] at hs
        exact (base6_below w H Z).trans ((HB.out.mono (by omega)).trans (HB2.out.mono (by omega)))
end Go.Proofs.Qxb6612294a
