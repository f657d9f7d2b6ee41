import Derived.Test.Qxb6612305aData
namespace Go.Proofs.Qxb6612305a
open Go.RowKit

section
variable (w : World) {ops : Array Oper} {rest : List Oper} {o : Oper} {a : Act} {Q : Exit → Act → World → Prop}
theorem wpList_lookA (hg : o.guard = none) (m x : Operand) (hop : o.op = Op.lookup 27 m x true) (b n : Nat) (D : DataW Value) (hall : AllA D) (hm : a.eval m = .map (some b)) (hown : w.ownsMap Try.prog 9 valElem b n D)
    (s : ByteArray) (hx : a.eval x = .string s) (hs : s.size ≤ maxLen)
    (hK : ∀ t y, D.atKey (key s) (.held zA) = .held (assetV t y) → wpList Try.prog ops Q rest (a.put o.dst (.tuple #[.agg #[.string t, .int .i64 y], .bool (Maps.has D (key s))])) w) :
    wpList Try.prog ops Q (o :: rest) a w :=
  wpList_lookup_own_ok w hg m x 27 hop 9 39 law9 Try.underlying27 valElem (zero39 w) (.held zA) [] rfl b n D hm hown _ _ hx (keyOf9 hs) (fun v ps hv => by
    obtain ⟨t, y, h⟩ := hall (key s)
    rw [h] at hv
    injection hv with hv
    injection hv with hv1 _
    injection hv1 with hv2
    subst hv2
    exact hK t y h)
theorem wpList_lookL (hg : o.guard = none) (m x : Operand) (hop : o.op = Op.lookup 28 m x true) (b n : Nat) (D : DataW Value) (hall : AllL D) (hm : a.eval m = .map (some b)) (hown : w.ownsMap Try.prog 9 valElem b n D)
    (s : ByteArray) (hx : a.eval x = .string s) (hs : s.size ≤ maxLen)
    (hK : ∀ t y, D.atKey (key s) (.held zL) = .held (loanV t y) → wpList Try.prog ops Q rest (a.put o.dst (.tuple #[.agg (lc t y), .bool (Maps.has D (key s))])) w) :
    wpList Try.prog ops Q (o :: rest) a w :=
  wpList_lookup_own_ok w hg m x 28 hop 9 52 law9 Try.underlying28 valElem (zero52' w) (.held zL) [] rfl b n D hm hown _ _ hx (keyOf9 hs) (fun v ps hv => by
    obtain ⟨t, y, h⟩ := hall (key s)
    rw [h] at hv
    injection hv with hv
    injection hv with hv1 _
    injection hv1 with hv2
    subst hv2
    exact hK t y h)
theorem setRow_new (W : World) (c c' : Array Value) (t : TypeId) : (W.alloc (.cells c t)).setRow W.heap.size c' = W.alloc (.cells c' t) := by
  unfold World.setRow World.alloc
  congr 1
  apply Array.ext_getElem?
  intro k
  simp only [Array.getElem?_modify, Array.getElem?_push]
  by_cases hk : k = W.heap.size
  · subst hk; simp
  · simp [hk]; intro e; exact absurd e.symm hk
/-- a Loan into the variable that has just been laid for it -/
theorem wpList_storeL (hgd : o.guard = none) (x y : Operand) (ho : o.op = .store 52 x y) (t st t0 st0 : ByteArray) (g : Nat) (hg : g = w.heap.size) (hx : a.eval x = .pointer (some ⟨g, 0, none⟩)) (hy : a.eval y = .agg (lc t st))
    (h : wpList Try.prog ops Q rest (a.put o.dst undef) (w.alloc (.cells (lc t st) 52))) : wpList Try.prog ops Q (o :: rest) a (w.alloc (.cells (lc t0 st0) 52)) := by
  subst hg
  refine wpList_store_row hgd 52 x y ho w.heap.size (lc t st) hx hy 52 (lc t0 st0) (heap_alloc_new w _) info52 rfl (lc_one t st) ?_
  rw [setRow_new]
  exact h
end

theorem ownsMap_below {w w' : World} {P : Program} {k : TypeId} {R : Value → Option (DataW Value × List MemPlace)} {b n B : Nat} {D : DataW Value} (h : w.ownsMap P k R b n D) (hb : Below B w w') (hlt : b < B) : w'.ownsMap P k R b n D := by
  obtain ⟨es, clock, h1, r⟩ := h
  exact ⟨es, clock, (hb.block b hlt).trans h1, r⟩
theorem hashes_snoc (m : Nat) : hashes m ++ ⟨#[35]⟩ = hashes (m + 1) := by
  have e : ∀ m, hashes m = ⟨(List.replicate m 35).toArray⟩ := fun m => by simp [hashes]
  rw [e, e, show (⟨#[35]⟩ : ByteArray) = ⟨([35] : List UInt8).toArray⟩ from rfl, ByteArray.mk_append_mk, List.replicate_succ']

set_option maxHeartbeats 2000000 in
theorem absent12 (A L nA nL bd : Nat) (DA DL : DataW Value) (hbd : bd ≤ 10000) (haA : AllA DA) (haL : AllL DL) (hsz : Maps.size DA + Maps.size DL ≤ bd) (w : World) (hA : w.ownsMap Try.prog 9 valElem A nA DA) (hL : w.ownsMap Try.prog 9 valElem L nL DL) :
    Calls Try.prog 12 #[.map (some A), .map (some L), .int .i64 bd] w fun e w' => ∃ m, e = .returned (.string (hashes m)) ∧ m ≤ bd + 1 ∧ Maps.has DA (key (hashes m)) = false ∧ Maps.has DL (key (hashes m)) = false ∧ Below w.heap.size w w' := by
  have HA : Hid (w.ownsMap Try.prog 9 valElem A nA DA) := hA
  have HL : Hid (w.ownsMap Try.prog 9 valElem L nL DL) := hL
  have HaA : Hid (AllA DA) := haA
  have HaL : Hid (AllL DL) := haL
  have hAl := hA.lt
  have hLl := hL.lt
  clear hA hL haA haL
  go_enter Try.func12, Try.ntmps12
  go_wp2_with fail
  go_loopw [7, 8] (fun k t wr => ∃ j : Nat, j ≤ bd + 1 ∧ t = .int .i64 j ∧ k = .string (hashes (j + 1)) ∧ (∀ i, i < j → Maps.has DA (key (hashes (i + 1))) = true ∨ Maps.has DL (key (hashes (i + 1))) = true) ∧ Below w.heap.size w wr) (fun _ t _ => bd + 1 - (intOf t).toNat)
  case atStart => exact ⟨0, Nat.zero_le _, rfl, rfl, fun i hi => by omega, Below.refl _ _⟩
  case round =>
    obtain ⟨j, hj, rfl, rfl, hall, hbel⟩ := hrel
    have HAll : Hid (∀ i, i < j → Maps.has DA (key (hashes (i + 1))) = true ∨ Maps.has DL (key (hashes (i + 1))) = true) := hall
    have HB : Hid (Below w.heap.size w wr) := hbel
    clear hall hbel
    by_cases hlt : j ≤ bd
    · have HA' : Hid (wr.ownsMap Try.prog 9 valElem A nA DA) := ownsMap_below HA.out HB.out hAl
      have HL' : Hid (∀ o : Obj, (wr.alloc o).ownsMap Try.prog 9 valElem L nL DL) := fun o => (ownsMap_below HL.out HB.out hLl).alloc o
      have hks : (hashes (j + 1)).size ≤ maxLen := by rw [hashes_size]; unfold maxLen; omega
      have HN : Hid (hashes (j + 1) ++ ⟨#[35]⟩ = hashes (j + 1 + 1)) := hashes_snoc (j + 1)
      have hz := zero52
      have hs1 := hashes_size (j + 1)
      have hjb : j ≤ 10000 := by omega
      cases hhA : Maps.has DA (key (hashes (j + 1)))
      · cases hhL : Maps.has DL (key (hashes (j + 1)))
        · go_wp2_with (first
            | (at_lookup; refine wpList_lookA _ rfl _ _ rfl A nA DA HaA.out rfl HA'.out (hashes (j + 1)) rfl hks ?_; intro t y hty; clear hty)
            | (at_lookup; refine wpList_lookL _ rfl _ _ rfl L nL DL HaL.out rfl (HL'.out _) (hashes (j + 1)) rfl hks ?_; intro t y hty; clear hty)
            | (with_reducible show wpList _ _ _ (Oper.mk _ (Op.store 52 _ _) _ _ _ _ :: _) _ _; refine wpList_storeL _ rfl _ _ rfl _ _ _ _ _ ?_ rfl rfl ?_; (simp)))
          go_ret
          exact ⟨j + 1, rfl, by omega, hhA, hhL, (HB.out.alloc HB.out.size _).alloc (by have := HB.out.size; simp; omega) _⟩
        · go_wp2_with (first
            | (at_lookup; refine wpList_lookA _ rfl _ _ rfl A nA DA HaA.out rfl HA'.out (hashes (j + 1)) rfl hks ?_; intro t y hty; clear hty)
            | (at_lookup; refine wpList_lookL _ rfl _ _ rfl L nL DL HaL.out rfl (HL'.out _) (hashes (j + 1)) rfl hks ?_; intro t y hty; clear hty)
            | (with_reducible show wpList _ _ _ (Oper.mk _ (Op.store 52 _ _) _ _ _ _ :: _) _ _; refine wpList_storeL _ rfl _ _ rfl _ _ _ _ _ ?_ rfl rfl ?_; (simp)))
          go_roundw
          case rel => exact ⟨j + 1, by omega, by go_num, by rw [HN.out], fun i hi => by
            by_cases e : i = j
            · rw [e]; exact .inr hhL
            · exact HAll.out i (by omega), (HB.out.alloc HB.out.size _).alloc (by have := HB.out.size; simp; omega) _⟩
          case measure => simp [intOf]; omega
      · cases hhL : Maps.has DL (key (hashes (j + 1)))
        · go_wp2_with (first
            | (at_lookup; refine wpList_lookA _ rfl _ _ rfl A nA DA HaA.out rfl HA'.out (hashes (j + 1)) rfl hks ?_; intro t y hty; clear hty)
            | (at_lookup; refine wpList_lookL _ rfl _ _ rfl L nL DL HaL.out rfl (HL'.out _) (hashes (j + 1)) rfl hks ?_; intro t y hty; clear hty)
            | (with_reducible show wpList _ _ _ (Oper.mk _ (Op.store 52 _ _) _ _ _ _ :: _) _ _; refine wpList_storeL _ rfl _ _ rfl _ _ _ _ _ ?_ rfl rfl ?_; (simp)))
          go_roundw
          case rel => exact ⟨j + 1, by omega, by go_num, by rw [HN.out], fun i hi => by
            by_cases e : i = j
            · rw [e]; exact .inl hhA
            · exact HAll.out i (by omega), (HB.out.alloc HB.out.size _).alloc (by have := HB.out.size; simp; omega) _⟩
          case measure => simp [intOf]; omega
        · go_wp2_with (first
            | (at_lookup; refine wpList_lookA _ rfl _ _ rfl A nA DA HaA.out rfl HA'.out (hashes (j + 1)) rfl hks ?_; intro t y hty; clear hty)
            | (at_lookup; refine wpList_lookL _ rfl _ _ rfl L nL DL HaL.out rfl (HL'.out _) (hashes (j + 1)) rfl hks ?_; intro t y hty; clear hty)
            | (with_reducible show wpList _ _ _ (Oper.mk _ (Op.store 52 _ _) _ _ _ _ :: _) _ _; refine wpList_storeL _ rfl _ _ rfl _ _ _ _ _ ?_ rfl rfl ?_; (simp)))
          go_roundw
          case rel => exact ⟨j + 1, by omega, by go_num, by rw [HN.out], fun i hi => by
            by_cases e : i = j
            · rw [e]; exact .inl hhA
            · exact HAll.out i (by omega), (HB.out.alloc HB.out.size _).alloc (by have := HB.out.size; simp; omega) _⟩
          case measure => simp [intOf]; omega
    · exact absurd (pigeon DA DL (HA.out.tidy law9) (HL.out.tidy law9) j HAll.out) (by omega)
end Go.Proofs.Qxb6612305a
