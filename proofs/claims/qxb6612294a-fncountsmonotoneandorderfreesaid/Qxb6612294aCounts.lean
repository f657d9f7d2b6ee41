import Derived.Test.Qxb6612294aLeaf
namespace Go.Proofs.Qxb6612294a
open Go.RowKit

/-- window k: the intervals 30k .. 30k+29 (the 13th: 25 of them) hold a trade -/
def winOk (H : Nat → Bool) (k : Nat) : Bool := anyIn H (30 * k) (min 30 (385 - 30 * k))
def cntB (H : Nat → Bool) (g : Nat → Bool) : Bool := decide (385 ≤ 2 * cnt H 385) && (List.range 13).all (winOk H) && (List.range 56).all g
theorem cntB_few {H : Nat → Bool} (g : Nat → Bool) (h : 2 * cnt H 385 < 385) : cntB H g = false := by
  unfold cntB; rw [decide_eq_false (by omega)]; rfl
theorem cntB_win {H : Nat → Bool} (g : Nat → Bool) {k : Nat} (hk : k < 13) (h : winOk H k = false) : cntB H g = false := by
  have : (List.range 13).all (winOk H) = false := by rw [List.all_eq_false]; exact ⟨k, by simpa using hk, by simp [h]⟩
  unfold cntB; rw [this]; simp
theorem cntB_min {H : Nat → Bool} {g : Nat → Bool} {k : Nat} (hk : k < 56) (h : g k = false) : cntB H g = false := by
  have : (List.range 56).all g = false := by rw [List.all_eq_false]; exact ⟨k, by simpa using hk, by simp [h]⟩
  unfold cntB; rw [this]; simp
theorem cntB_yes {H : Nat → Bool} {g : Nat → Bool} (h1 : 385 ≤ 2 * cnt H 385) (h2 : ∀ k, k < 13 → winOk H k = true) (h3 : ∀ k, k < 56 → g k = true) : cntB H g = true := by
  have e1 : (List.range 13).all (winOk H) = true := by rw [List.all_eq_true]; intro k hk; exact h2 k (by simpa using hk)
  have e2 : (List.range 56).all g = true := by rw [List.all_eq_true]; intro k hk; exact h3 k (by simpa using hk)
  unfold cntB; rw [e1, e2, decide_eq_true h1]; rfl

theorem run_win (b L n : Nat) (l u : Int) (hL : L < 385) (h : L + n ≤ 385) (el : l = (L : Int)) (eu : u = (L : Int) + (n : Int)) (w : World) :
    (Instr.sliceAt 22 (.pointer (some ⟨b, 5, none⟩)) (some (.int .i64 l)) (some (.int .i64 u)) none).run Try.prog w = .ok (.slice (some ⟨b, 5 + L, none⟩) n (385 - L)) w := by
  subst el; subst eu
  have h1 : (0 : Int) ≤ (L : Int) + (n : Int) ∧ (L : Int) + (n : Int) ≤ ((385 : Nat) : Int) := by omega
  have h2 : (0 : Int) ≤ (L : Int) ∧ (L : Int) ≤ ((((L : Int) + (n : Int)).toNat : Nat) : Int) := by omega
  have e1 : ((L : Int) + (n : Int)).toNat = L + n := by omega
  have e2 : ¬ (385 = L) := by omega
  simp [Instr.sliceAt, Instr.sureAddr, Instr.sliceBounds, Instr.sliceBound, asIntOf, run_underlying Try.underlying22]
  rw [if_pos (by omega)]
  rw [if_pos (by omega)]
  simp [e2, e1, Addr.add_mid]


/-- HOW AN ELEMENT OF THE MAP (a config.Decimal) READS: only its shape is looked at. -/
def decElem : Value → Option (DataW Unit × List MemPlace)
  | .agg cs => match cs.toList with
    | [.pointer none, .int .u64 _, .int .u64 _, .int .i32 _, .bool _, .string _] => some (.agg [], [])
    | _ => none
  | _ => none
theorem decElem_inv {v : Value} {z : DataW Unit × List MemPlace} (h : decElem v = some z) :
    ∃ (a b c : Int) (d : Bool) (s : ByteArray), v = .agg #[.pointer none, .int .u64 a, .int .u64 b, .int .i32 c, .bool d, .string s] := by
  unfold decElem at h
  split at h
  · rename_i cs
    split at h
    · rename_i a b c d s hl
      refine ⟨a, b, c, d, s, ?_⟩
      rw [← Array.toArray_toList (xs := cs), hl]
    · cases h
  · cases h
def zeroDec : Value := .agg #[.pointer none, .int .u64 0, .int .u64 0, .int .i32 0, .bool false, .string ByteArray.empty]
theorem zero46 (w : World) : (zeroValue 46).run Try.prog w = .ok zeroDec w := by kernel_rfl
theorem decElem_zero : decElem zeroDec = some (.agg [], []) := rfl
theorem law50 : Maps.Keyed Try.prog 50 := Maps.int_keyed Try.underlying50

theorem wpList_lookup_dec (w : World) {ops : Array Oper} {rest : List Oper} {o : Oper} {a : Act} {Q : Exit → Act → World → Prop} (hg : o.guard = none) (m x : Operand) (hop : o.op = Op.lookup 49 m x true)
    (b n : Nat) (D : DataW Unit) (hm : a.eval m = .map (some b)) (hown : w.ownsMap Try.prog 50 decElem b n D) (key : Int) (hx : a.eval x = .int .i64 key) (hw : (Lit.int .i64 key).wf = true)
    (hK : ∀ (a1 b1 c1 : Int) (d1 : Bool) (s1 : ByteArray), wpList Try.prog ops Q rest (a.put o.dst (.tuple #[.agg #[.pointer none, .int .u64 a1, .int .u64 b1, .int .i32 c1, .bool d1, .string s1], .bool (Maps.has D (.int .i64 key))])) w) :
    wpList Try.prog ops Q (o :: rest) a w :=
  wpList_lookup_own_ok w hg m x 49 hop 50 46 law50 Try.underlying49 decElem (zero46 w) (.agg []) [] decElem_zero b n D hm hown _ _ hx (Maps.keyOf_int_mk Try.underlying50 hw) (fun v ps hv => by
    obtain ⟨a1, b1, c1, d1, s1, rfl⟩ := decElem_inv hv
    exact hK a1 b1 c1 d1 s1)

theorem ownsMap_below {H : Type} {w w' : World} {P : Program} {k : TypeId} {R : Value → Option (DataW H × List MemPlace)} {b n B : Nat} {D : DataW H} (h : w.ownsMap P k R b n D) (hb : Below B w w') (hlt : b < B) : w'.ownsMap P k R b n D := by
  obtain ⟨es, clock, h1, r⟩ := h
  exact ⟨es, clock, (hb.block b hlt).trans h1, r⟩

/-- minute m from 15:00 on, as a duration since midnight -/
def mkKey (m : Nat) : Int := 54000000000000 + 60000000000 * (m : Int)

set_option maxHeartbeats 1000000 in
set_option maxRecDepth 100000 in
theorem counts_any (H : Nat → Bool) (b bm n : Nat) (D : DataW Unit) (w : World) (hc : w.rangeAt b 5 (hl H)) (hown : w.ownsMap Try.prog 50 decElem bm n D) :
    Calls Try.prog 9 #[.pointer (some ⟨b, 0, none⟩), .map (some bm)] w fun e w' => e = .returned (.bool (cntB H (fun m => Maps.has D (.int .i64 (mkKey m))))) ∧ Below w.heap.size w w' := by
  have hle := cnt_le H 385
  have HO : Hid (w.ownsMap Try.prog 50 decElem bm n D) := hown
  clear hown
  go_enter Try.func9, Try.ntmps9
  go_wp2_with fail
  refine (traded_any H b _ hc).mono ?_
  rintro e w' ⟨rfl, rfl⟩
  by_cases hfew : 2 * cnt H 385 < 385
  · go_wp2
    go_ret
    exact ⟨by rw [cntB_few _ hfew]; rfl, Below.refl _ _⟩
  go_wp2_with fail
  have HC : Hid (w.rangeAt b 5 (hl H)) := hc
  clear hc
  go_loop [6] (fun i => ∃ k : Nat, k ≤ 13 ∧ i = .int .i64 (30 * k) ∧ ∀ j, j < k → winOk H j = true) (fun i => 400 - (intOf i).toNat)
  case atStart => exact ⟨0, by omega, rfl, fun j hj => by omega⟩
  case round =>
    obtain ⟨k, hk, rfl, hf⟩ := hrel
    have HF : Hid (∀ j, j < k → winOk H j = true) := hf
    clear hf
    by_cases hlt : k < 13
    · have hcell : ∀ j, j < min 30 (385 - 30 * k) → w.cell? ⟨b, 5 + 30 * k + j, none⟩ = some (.bool (H (30 * k + j))) := fun j hj => by
        have := HC.out (30 * k + j) _ (hl_get H (30 * k + j) (by omega))
        rw [Nat.add_assoc]; exact this
      have HCell : Hid (∀ j, j < min 30 (385 - 30 * k) → w.cell? ⟨b, 5 + 30 * k + j, none⟩ = some (.bool (H (30 * k + j)))) := hcell
      clear hcell
      have h1 : (30 : Int) * k < 385 := by omega
      have h3 : (0 : Int) ≤ 30 * k := by omega
      have hw := run_win b (30 * k) (min 30 (385 - 30 * k)) (30 * (k : Int)) (min (30 * (k : Int) + 30) 385) (by omega) (by omega) (by omega) (by omega)
      by_cases hk12 : k < 12
      · have h2 : (30 : Int) * k + 30 ≤ 385 := by omega
        have e1 : min (30 * (k : Int) + 30) 385 = 30 * (k : Int) + 30 := by omega
        rw [e1] at hw
        clear e1
        go_wp2_with fail
        refine (contains_any H b (30 * k) (5 + 30 * k) _ _ (by omega) _ HCell.out).mono ?_
        rintro e w' ⟨rfl, rfl⟩
        cases hwin : anyIn H (30 * k) (min 30 (385 - 30 * k))
        · have HW : Hid (winOk H k = false) := hwin
          clear hwin
          go_wp2
          go_ret
          exact ⟨by rw [cntB_win _ hlt HW.out]; rfl, Below.refl _ _⟩
        · have HW : Hid (winOk H k = true) := hwin
          clear hwin
          go_wp2
          go_round
          case rel => exact ⟨k + 1, by omega, by go_num, fun j hj => by
            by_cases e : j = k
            · rw [e]; exact HW.out
            · exact HF.out j (by omega)⟩
          case measure => simp [intOf]; omega
      · obtain rfl : k = 12 := by omega
        have hcell : ∀ j, j < 25 → w.cell? ⟨b, 365 + j, none⟩ = some (.bool (H (360 + j))) := fun j hj => HCell.out j (by omega)
        have HCell' : Hid (∀ j, j < 25 → w.cell? ⟨b, 365 + j, none⟩ = some (.bool (H (360 + j)))) := hcell
        clear hcell
        go_wp2_with fail
        refine (contains_any H b 360 365 25 25 (by omega) _ HCell'.out).mono ?_
        rintro e w' ⟨rfl, rfl⟩
        cases hwin : anyIn H 360 25
        · have HW : Hid (winOk H 12 = false) := hwin
          clear hwin
          go_wp2
          go_ret
          exact ⟨by rw [cntB_win _ (by omega) HW.out]; rfl, Below.refl _ _⟩
        · have HW : Hid (winOk H 12 = true) := hwin
          clear hwin
          go_wp2
          go_round
          case rel => exact ⟨13, by omega, by go_num, fun j hj => by
            by_cases e : j = 12
            · rw [e]; exact HW.out
            · exact HF.out j (by omega)⟩
          case measure => simp [intOf]
    · obtain rfl : k = 13 := by omega
      go_wp2_with fail
      have hbm := HO.out.lt
      go_loopw [7] (fun i wr => ∃ k : Nat, k ≤ 56 ∧ i = .int .i64 (54000000000000 + 60000000000 * (k : Int)) ∧ (∀ j, j < k → Maps.has D (.int .i64 (mkKey j)) = true) ∧ Below w.heap.size w wr) (fun i wr => 57360000000000 - (intOf i).toNat)
      case atStart => exact ⟨0, by omega, rfl, fun j hj => by omega, Below.refl _ _⟩
      case round =>
        obtain ⟨k, hk, rfl, hg, hbel⟩ := hrel
        have HG : Hid (∀ j, j < k → Maps.has D (.int .i64 (mkKey j)) = true) := hg
        have HB : Hid (Below w.heap.size w wr) := hbel
        clear hg hbel
        by_cases hlt : k < 56
        · have HO' : Hid (wr.ownsMap Try.prog 50 decElem bm n D) := ownsMap_below HO.out HB.out hbm
          have hwf : (Lit.int .i64 (54000000000000 + 60000000000 * (k : Int))).wf = true := WalkArith.wf_i64 (by omega)
          cases hhas : Maps.has D (.int .i64 (54000000000000 + 60000000000 * (k : Int)))
          · go_wp2_with (at_lookup; refine wpList_lookup_dec _ rfl _ _ rfl bm n D rfl HO'.out _ rfl hwf ?_; intro a1 b1 c1 d1 s1)
            go_ret
            exact ⟨by rw [cntB_min hlt hhas]; rfl, HB.out.alloc HB.out.size _⟩
          · go_wp2_with (at_lookup; refine wpList_lookup_dec _ rfl _ _ rfl bm n D rfl HO'.out _ rfl hwf ?_; intro a1 b1 c1 d1 s1)
            go_roundw
            case rel => exact ⟨k + 1, by omega, congrArg (Value.int .i64) (show (54000000000000 + 60000000000 * (k : Int) + 60000000000 : Int) = 54000000000000 + 60000000000 * ((k + 1 : Nat) : Int) by omega), fun j hj => by
              by_cases e : j = k
              · rw [e]; exact hhas
              · exact HG.out j (by omega), HB.out.alloc HB.out.size _⟩
            case measure => simp [intOf]; omega
        · obtain rfl : k = 56 := by omega
          go_wp2
          go_ret
          exact ⟨by rw [cntB_yes (by omega) HF.out HG.out]; rfl, HB.out⟩
end Go.Proofs.Qxb6612294a
