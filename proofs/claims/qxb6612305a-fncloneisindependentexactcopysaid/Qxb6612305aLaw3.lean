import Derived.Test.Qxb6612305aAbsent
namespace Go.Proofs.Qxb6612305a
open Go.RowKit

theorem below_drewN {B : Nat} {a w : World} (h : Below B a w) : ∀ q, Below B a (w.drewN q) := fun _ => ⟨h.os, h.tape, h.output, h.size, h.block⟩

/-- WHAT HOLDS OF EVERY WORLD BEHIND THE CLONE: the two maps of the State and the two of its clone, the State's cells, the arguments; nothing older has turned. -/
structure Lay (w : World) (a i : Option Addr) (n ni : Nat) (nm im : Nat → ByteArray) (ct la : Int) (A L s : Nat) (DA DL : DataW Value) (w' : World) : Prop where
  mA : w'.ownsMap Try.prog 9 valElem A n DA
  mL : w'.ownsMap Try.prog 9 valElem L ni DL
  st : St w' s ct la A L
  nms : Strs w' a n nm
  ids : Strs w' i ni im
  bel : Below w.heap.size w w'
/-- .. and the clone's two maps -/
structure LayC (CA CL nA nL : Nat) (DA DL : DataW Value) (w' : World) : Prop where
  mA : w'.ownsMap Try.prog 9 valElem CA nA DA
  mL : w'.ownsMap Try.prog 9 valElem CL nL DL

variable {w w1 w2 : World} {a i : Option Addr} {n ni : Nat} {nm im : Nat → ByteArray} {ct la : Int} {A L s CA CL : Nat} {DA DL : DataW Value}
theorem Lay.below (h : Lay w a i n ni nm im ct la A L s DA DL w1) (hb : Below w1.heap.size w1 w2) : Lay w a i n ni nm im ct la A L s DA DL w2 :=
  ⟨ownsMap_below h.mA hb h.mA.lt, ownsMap_below h.mL hb h.mL.lt, h.st.below hb h.st.lt, h.nms.below hb, h.ids.below hb, h.bel.trans (hb.mono h.bel.size)⟩
theorem LayC.below {nA nL : Nat} (h : LayC CA CL nA nL DA DL w1) (hb : Below w1.heap.size w1 w2) : LayC CA CL nA nL DA DL w2 :=
  ⟨ownsMap_below h.mA hb h.mA.lt, ownsMap_below h.mL hb h.mL.lt⟩
theorem St.grown {w w' : World} {B s : Nat} {ct la : Int} {A L : Nat} (h : St w s ct la A L) (hg : w.grownBy w' (some B)) (hne : s ≠ B) : St w' s ct la A L :=
  ⟨hg.cell h.1 (by simpa using hne), hg.cell h.2.1 (by simpa using hne), hg.cell h.2.2.1 (by simpa using hne), hg.cell h.2.2.2 (by simpa using hne)⟩
/-- one of the clone's maps has turned -/
theorem Lay.grown {B : Nat} (h : Lay w a i n ni nm im ct la A L s DA DL w1) (hn0 : Strs w a n nm) (hi0 : Strs w i ni im) (hg : w1.grownBy w2 (some B)) (hA : A ≠ B) (hL : L ≠ B) (hs : s ≠ B) (hB : w.heap.size ≤ B) :
    Lay w a i n ni nm im ct la A L s DA DL w2 := by
  have hb : Below w.heap.size w w2 := h.bel.grown hg h.bel.size (fun j hj => by cases hj; exact hB)
  exact ⟨h.mA.kept hg (by simpa using hA), h.mL.kept hg (by simpa using hL), h.st.grown hg hs, hn0.below hb, hi0.below hb, hb⟩
theorem bel1 (w : World) (o : Obj) : Below w.heap.size w (w.alloc o) := (Below.refl _ _).alloc (Nat.le_refl _) _
theorem fields11' (ct la : Int) (A L s : Nat) (w : World) (h : St w s ct la A L) :
    Calls Try.prog 11 #[.pointer (some ⟨s, 0, none⟩)] w fun e w' => e = .returned (.tuple #[.int .i64 ct, .int .i64 la, .map (some A), .map (some L)]) ∧ Below w.heap.size w w' :=
  (fields11 ct la A L s w h.1 h.2.1 h.2.2.1 h.2.2.2).mono fun _ _ ⟨he, q, hq⟩ => ⟨he, hq ▸ below_drewN (Below.refl _ _) q⟩

theorem look_plainA {W : World} {b n : Nat} {D : DataW Value} {s t : ByteArray} {y : Int} (hown : W.ownsMap Try.prog 9 valElem b n D) (hs : s.size ≤ maxLen) (h : D.atKey (key s) (.held zA) = .held (assetV t y)) (q : Nat) :
    (Instr.lookup 27 (.map (some b)) (.string s) false).run Try.prog (W.drewN q) = .ok (.agg #[.string t, .int .i64 y]) (W.drewN q) := by
  have hown' : (W.drewN q).ownsMap Try.prog 9 valElem b n D := hown
  obtain ⟨v, ps, hrun, hv⟩ := hown'.lookup law9 Try.underlying27 (zero39 _) (zd := .held zA) (zp := []) rfl (keyOf9 hs)
  rw [h] at hv
  injection hv with hv
  injection hv with hv1 _
  injection hv1 with hv2
  subst hv2
  exact hrun
theorem look_plainL {W : World} {b n : Nat} {D : DataW Value} {s t y : ByteArray} (hown : W.ownsMap Try.prog 9 valElem b n D) (hs : s.size ≤ maxLen) (h : D.atKey (key s) (.held zL) = .held (loanV t y)) (q : Nat) :
    (Instr.lookup 28 (.map (some b)) (.string s) false).run Try.prog (W.drewN q) = .ok (.agg (lc t y)) (W.drewN q) := by
  have hown' : (W.drewN q).ownsMap Try.prog 9 valElem b n D := hown
  obtain ⟨v, ps, hrun, hv⟩ := hown'.lookup law9 Try.underlying28 (zero52' _) (zd := .held zL) (zp := []) rfl (keyOf9 hs)
  rw [h] at hv
  injection hv with hv
  injection hv with hv1 _
  injection hv1 with hv2
  subst hv2
  exact hrun

theorem yieldsIf_load_row {P : Program} {ops : Array Oper} {S : World → Prop} {op : Oper} {a : Act} (hw : Region.wanted op (yielded ops a.tmps) = true) (ty : TypeId) (x : Operand) (ho : op.op = .load ty x)
    (g : Nat) (hx : a.eval x = .pointer (some ⟨g, 0, none⟩)) (t : TypeId) (cs : Array Value) (fr : Nat × Nat) (d : TypeDesc) (hS : ∀ w, S w → w.heap[g]? = some (.cells cs t fr))
    (hu : P.underlying ty = some d) (hd : (match d with | .struct _ | .array _ _ => true | _ => false) = true) (hi : (P.info? ty).map (·.size) = some cs.size) : YieldsIf P ops S op (.agg cs) a :=
  .inl ⟨hw, fun w hw' => by
    unfold execOp
    simp only [ho, hx, Instr.loadAt, Instr.sureAddr, Sem.run_bind, Sem.run_pure, Result.andThen_ok, run_loadVar_row w g t ty cs fr d (hS w hw') hu hd hi]⟩

set_option maxHeartbeats 2000000 in
set_option maxRecDepth 100000 in
theorem law3_some (ct la : Int) (a d i : Option Addr) (n nc nd dc ni ic : Nat) (nm im : Nat → ByteArray) (de : Nat → Int) (hm : n ≤ maxLen) (hdm : nd ≤ maxLen) (him : ni ≤ maxLen)
    (hns : ∀ j, j < n → (nm j).size ≤ maxLen) (his : ∀ j, j < ni → (im j).size ≤ maxLen) (w : World) (hn : Strs w a n nm) (hd : Ints w d nd de) (hi : Strs w i ni im) :
    Calls Try.prog 3 #[.int .i64 ct, .int .i64 la, .slice a n nc, .slice d nd dc, .slice i ni ic] w fun e w' => e = .returned (.bool true) ∧ Below w.heap.size w w' := by
  have HN : Hid (Strs w a n nm) := hn
  have HD : Hid (Ints w d nd de) := hd
  have HI : Hid (Strs w i ni im) := hi
  have HNS : Hid (∀ j, j < n → (nm j).size ≤ maxLen) := hns
  have HIS : Hid (∀ j, j < ni → (im j).size ≤ maxLen) := his
  clear hn hd hi hns his
  go_enter Try.func3, Try.ntmps3
  go_wp2_with fail
  refine (bytes5_any ct la a d i n nc nd dc ni ic nm im hm hdm him _ HN.out HI.out).mono ?_
  rintro e w' ⟨⟨r, rfl⟩, rfl⟩
  cases r
  · go_wp2
    go_ret
    exact ⟨rfl, Below.refl _ _⟩
  go_wp2_with fail
  refine (size6_any a d i n nc nd dc ni ic nm im hm hdm him _ HN.out HI.out).mono ?_
  rintro e w' ⟨⟨r, rfl, hr⟩, rfl⟩
  cases r
  · clear hr
    go_wp2
    go_ret
    exact ⟨rfl, Below.refl _ _⟩
  obtain ⟨hn4, hd4, hi4⟩ := hr rfl
  clear hr hm hdm him
  go_wp2_with fail
  refine (premise7_any ct la a i n nc ni ic hn4 hi4 _).mono ?_
  rintro e w' ⟨⟨r, rfl⟩, rfl⟩
  cases r
  · go_wp2
    go_ret
    exact ⟨rfl, Below.refl _ _⟩
  go_wp2_with fail
  refine (maps8_any a d i n nc nd dc ni ic nm im de hn4 hd4 hi4 HNS.out HIS.out _ HN.out HD.out HI.out).mono ?_
  rintro e w1 ⟨L, rfl, hAL, hoA, hoL, hb1⟩
  obtain ⟨A, hA⟩ : ∃ A, A = w.heap.size := ⟨_, rfl⟩
  rw [← hA] at hoA hAL
  rw [← hA]
  obtain ⟨DA, hDA⟩ : ∃ D, D = dA nm de nd n := ⟨_, rfl⟩
  obtain ⟨DL, hDL⟩ : ∃ D, D = dL openS im ni := ⟨_, rfl⟩
  rw [← hDA] at hoA
  rw [← hDL] at hoL
  have HA0 : Hid (A = w.heap.size) := hA
  have HDA : Hid (DA = dA nm de nd n) := hDA
  have HDL : Hid (DL = dL openS im ni) := hDL
  have HoA : Hid (w1.ownsMap Try.prog 9 valElem A n DA) := hoA
  have HoL : Hid (w1.ownsMap Try.prog 9 valElem L ni DL) := hoL
  have HB1 : Hid (Below w.heap.size w w1) := hb1
  clear hA hDA hDL hoA hoL hb1
  go_wp2_with (first
    | (at_len; refine wpList_len_own _ rfl _ 27 rfl 9 39 Try.underlying27 _ A n DA rfl HoA.out ?_)
    | (at_len; refine wpList_len_own _ rfl _ 28 rfl 9 52 Try.underlying28 _ L ni DL rfl HoL.out ?_)
    | (go_at_call 9; refine (newState9 ct la A L _).mono ?_; rintro e w' ⟨rfl, rfl⟩))
  obtain ⟨s, hs⟩ : ∃ s, s = w1.heap.size := ⟨_, rfl⟩
  rw [← hs]
  have hst0 : St (w1.alloc (.cells #[.int .i64 ct, .int .i64 la, .map (some A), .map (some L)] 34)) s ct la A L := by
    subst hs
    exact ⟨World.cell?_alloc_at _ _ _ _ rfl, World.cell?_alloc_at _ _ _ _ rfl, World.cell?_alloc_at _ _ _ _ rfl, World.cell?_alloc_at _ _ _ _ rfl⟩
  have hLay0 : Lay w a i n ni nm im ct la A L s DA DL (w1.alloc (.cells #[.int .i64 ct, .int .i64 la, .map (some A), .map (some L)] 34)) :=
    ⟨HoA.out.alloc _, HoL.out.alloc _, hst0, (HN.out.below HB1.out).below (bel1 _ _), (HI.out.below HB1.out).below (bel1 _ _), HB1.out.alloc HB1.out.size _⟩
  have hwA : w.heap.size ≤ A := by rw [HA0.out]; exact Nat.le_refl _
  clear hs hst0 HoA HoL HB1 HA0
  generalize w1.alloc (.cells #[.int .i64 ct, .int .i64 la, .map (some A), .map (some L)] 34) = w2 at *
  refine (zzclone10 ct la A L s n ni DA DL w2 hLay0.st hLay0.mA hLay0.mL).mono ?_
  rintro e w3 ⟨CA, CL, rfl, hCA, hCL, hcA, hcL, hb3⟩
  have hLay1 := hLay0.below hb3
  have hAlt : A < w2.heap.size := hLay0.mA.lt
  have hLlt : L < w2.heap.size := hLay0.mL.lt
  have hslt : s < w2.heap.size := hLay0.st.lt
  have hCs1 := hcA.lt
  have hCs2 := hcL.lt
  have HLay : Hid (Lay w a i n ni nm im ct la A L s DA DL w3) := hLay1
  have HC : Hid (LayC CA CL n ni DA DL w3) := ⟨hcA, hcL⟩
  clear hLay0 hLay1 hb3 hcA hcL
  have hq27 := fun wx => run_eql_map_nil_sl (P := Try.prog) wx 27 9 39 (some CA) Try.underlying27
  have hq28 := fun wx => run_eql_map_nil_sl (P := Try.prog) wx 28 9 52 (some CL) Try.underlying28
  go_wp2_with fail
  refine (fields11' ct la CA CL w3.heap.size _ ⟨World.cell?_alloc_at _ _ _ _ rfl, World.cell?_alloc_at _ _ _ _ rfl, World.cell?_alloc_at _ _ _ _ rfl, World.cell?_alloc_at _ _ _ _ rfl⟩).mono ?_
  rintro e w4 ⟨rfl, hb4⟩
  have HLay4 : Hid (Lay w a i n ni nm im ct la A L s DA DL w4) := (HLay.out.below (bel1 _ _)).below hb4
  have HC4 : Hid (LayC CA CL n ni DA DL w4) := (HC.out.below (bel1 _ _)).below hb4
  clear hb4 HLay HC
  have hl1 : ∀ ty, (Builtin.len_ #[27] ty #[.map (some CA)]).run Try.prog w4 = .ok (.int .i64 (Maps.size DA)) w4 := fun ty => HC4.out.mA.len Try.underlying27 ty
  have hl2 : ∀ ty, (Builtin.len_ #[28] ty #[.map (some CL)]).run Try.prog w4 = .ok (.int .i64 (Maps.size DL)) w4 := fun ty => HC4.out.mL.len Try.underlying28 ty
  go_wp2_with fail
  clear hl1 hl2 hq27 hq28
  have HaA : Hid (AllA DA) := by rw [HDA.out]; exact dA_all nm de nd n
  have HaL : Hid (AllL DL) := by rw [HDL.out]; exact dL_all openS im ni
  go_loopw [21] (fun t wr => ∃ k : Nat, k ≤ n ∧ t = .int .i64 k ∧ Lay w a i n ni nm im ct la A L s DA DL wr ∧ LayC CA CL n ni DA DL wr) (fun t _ => n - (intOf t).toNat)
  case atStart => exact ⟨0, Nat.zero_le _, rfl, HLay4.out, HC4.out⟩
  case round =>
    obtain ⟨k, hk, rfl, hlay, hlc⟩ := hrel
    have HLay : Hid (Lay w a i n ni nm im ct la A L s DA DL wr) := hlay
    have HC : Hid (LayC CA CL n ni DA DL wr) := hlc
    clear hlay hlc HLay4 HC4
    by_cases hlt : k < n
    · obtain ⟨b, off, rfl, hc⟩ := HLay.out.nms (by omega)
      have hck := hc k hlt
      have hblt : b < wr.heap.size := block_lt_of_cell hck
      have hsz := HNS.out k hlt
      have hhas := dA_has nm de nd n k hlt
      rw [← HDA.out] at hhas
      obtain ⟨x, hx⟩ : ∃ x, x = nm k := ⟨_, rfl⟩
      rw [← hx] at hck hsz hhas
      clear hc hx
      go_wp2_with (at_lookup; refine wpList_lookA _ rfl _ _ rfl CA n DA HaA.out rfl HC.out.mA x rfl hsz ?_; intro t y hty; have hlook := fun q => look_plainA (HLay.out.mA.alloc (.cells #[.string t, .int .i64 y] 39)) hsz hty q; have hneq := neq39 t y; clear hty)
      go_quiet (fail)
      go_wp2
      go_roundw
      case rel => exact ⟨k + 1, by omega, by go_num, HLay.out.below (below_drewN (bel1 _ _) _), HC.out.below (below_drewN (bel1 _ _) _)⟩
      case measure => simp [intOf]; omega
    · obtain rfl : k = n := by omega
      clear hk hlt
      go_wp2_with fail
      go_loopw [24] (fun t wr => ∃ m : Nat, m ≤ ni ∧ t = .int .i64 m ∧ Lay w a i k ni nm im ct la A L s DA DL wr ∧ LayC CA CL k ni DA DL wr) (fun t _ => ni - (intOf t).toNat)
      case atStart => exact ⟨0, Nat.zero_le _, rfl, HLay.out, HC.out⟩
      case round =>
        clear HLay HC
        obtain ⟨m, hm, rfl, hlay, hlc⟩ := hrel
        have HLay : Hid (Lay w a i k ni nm im ct la A L s DA DL wr) := hlay
        have HC : Hid (LayC CA CL k ni DA DL wr) := hlc
        clear hlay hlc
        by_cases hlt : m < ni
        · obtain ⟨b, off, rfl, hc⟩ := HLay.out.ids (by omega)
          have hck := hc m hlt
          have hblt : b < wr.heap.size := block_lt_of_cell hck
          have hsz := HIS.out m hlt
          have hhas := dL_has openS im ni m hlt
          rw [← HDL.out] at hhas
          obtain ⟨x, hx⟩ : ∃ x, x = im m := ⟨_, rfl⟩
          rw [← hx] at hck hsz hhas
          have hz := zero52
          clear hc hx
          have hck' : ∀ o, ((wr.alloc o).drew).cell? ⟨b, off + m, none⟩ = some (.string x) := fun o => ((bel1 wr o).drew.cell (p := ⟨b, off + m, none⟩) hblt).trans hck
          go_wp2_with (first
            | (at_lookup; refine wpList_lookL _ rfl _ _ rfl CL ni DL HaL.out rfl HC.out.mL x rfl hsz ?_; intro t y hty; have hlook := look_plainL (HLay.out.mL.alloc (.cells (lc t y) 52)) hsz hty 1; have hneq := neq52 t y; clear hty)
            | (with_reducible show wpList _ _ _ (Oper.mk _ (Op.store 52 _ _) _ _ _ _ :: _) _ _; refine wpList_storeL _ rfl _ _ rfl _ _ _ _ _ ?_ rfl rfl ?_; (simp)))
          refine wp_region_held_drew (S := fun W' => W'.heap[wr.heap.size]? = some (.cells (lc t y) 52 (0, 0)) ∧ W'.cell? ⟨b, off + m, none⟩ = some (.string x) ∧ (Instr.lookup 28 (.map (some L)) (.string x) false).run Try.prog W' = .ok (.agg (lc t y)) W') (by kernel_rfl) ⟨heap_alloc_new wr _, hck' _, hlook⟩ (fun hHeld => ?_)
          refine wpAnyH_take (i := 0) (oi := ⟨some 150, Op.move (.tmp 26), 4, _, _, none⟩) (v := .bool true) rfl (by kernel_rfl) (by kernel_rfl) (by kernel_rfl) (fun _ _ _ h => h) (Or.inl ⟨by rfl, fun _ _ => by rfl⟩) hHeld ?_
          simp only [Act.put, List.setIfInBounds_toArray, List.set_cons_zero, List.set_cons_succ]
          refine wpAnyH_take (i := 1) (oi := ⟨some 151, Op.unOp UnOp.not 4 (.tmp 150), 4, _, _, none⟩) (v := .bool false) rfl (by kernel_rfl) (by kernel_rfl) (by kernel_rfl) (fun _ _ _ h => h) (Or.inl ⟨by rfl, fun _ hSw => by (try dsimp only at hSw); go_simp⟩) hHeld ?_
          simp only [Act.put, List.setIfInBounds_toArray, List.set_cons_zero, List.set_cons_succ]
          refine wpAnyH_take (i := 2) (oi := ⟨some 152, Op.move (.tmp 151), 4, _, _, none⟩) (v := .bool false) rfl (by kernel_rfl) (by kernel_rfl) (by kernel_rfl) (fun _ _ _ h => h) (Or.inl ⟨by rfl, fun _ _ => by rfl⟩) hHeld ?_
          simp only [Act.put, List.setIfInBounds_toArray, List.set_cons_zero, List.set_cons_succ]
          refine wpAnyH_take (i := 3) (oi := ⟨some 153, Op.load 52 (.tmp 25), 52, _, _, some (2, false)⟩) rfl (by kernel_rfl) (by kernel_rfl) (by kernel_rfl) (fun _ _ _ h => h) (yieldsIf_load_row (by rfl) 52 _ rfl wr.heap.size rfl 52 (lc t y) (0, 0) _ (fun _ h => h.1) Try.underlying52 rfl info52) hHeld ?_
          simp only [Act.put, List.setIfInBounds_toArray, List.set_cons_zero, List.set_cons_succ]
          refine wpAnyH_take (i := 4) (oi := ⟨some 154, Op.move (.tmp 12), 28, _, _, some (2, false)⟩) (v := .map (some L)) rfl (by kernel_rfl) (by kernel_rfl) (by kernel_rfl) (fun _ _ _ h => h) (Or.inl ⟨by rfl, fun _ _ => by rfl⟩) hHeld ?_
          simp only [Act.put, List.setIfInBounds_toArray, List.set_cons_zero, List.set_cons_succ]
          refine wpAnyH_take (i := 5) (oi := ⟨some 155, Op.move (.tmp 4), 22, _, _, some (2, false)⟩) (v := .slice (some ⟨b, off, none⟩) ni ic) rfl (by kernel_rfl) (by kernel_rfl) (by kernel_rfl) (fun _ _ _ h => h) (Or.inl ⟨by rfl, fun _ _ => by rfl⟩) hHeld ?_
          simp only [Act.put, List.setIfInBounds_toArray, List.set_cons_zero, List.set_cons_succ]
          refine wpAnyH_take (i := 6) (oi := ⟨some 156, Op.move (.tmp 24), 3, _, _, some (2, false)⟩) (v := .int .i64 m) rfl (by kernel_rfl) (by kernel_rfl) (by kernel_rfl) (fun _ _ _ h => h) (Or.inl ⟨by rfl, fun _ _ => by rfl⟩) hHeld ?_
          simp only [Act.put, List.setIfInBounds_toArray, List.set_cons_zero, List.set_cons_succ]
          refine wpAnyH_take (i := 7) (oi := ⟨some 157, Op.indexAddr 22 (.tmp 155) (.tmp 156), _, _, _, some (2, false)⟩) (v := .pointer (some ⟨b, off + m, none⟩)) rfl (by kernel_rfl) (by kernel_rfl) (by kernel_rfl) (fun _ _ _ h => h) (Or.inl ⟨by rfl, fun _ hSw => by (try dsimp only at hSw); go_simp⟩) hHeld ?_
          simp only [Act.put, List.setIfInBounds_toArray, List.set_cons_zero, List.set_cons_succ]
          refine wpAnyH_take (i := 8) (oi := ⟨some 158, Op.load 9 (.tmp 157), 9, _, _, some (2, false)⟩) (v := .string x) rfl (by kernel_rfl) (by kernel_rfl) (by kernel_rfl) (fun _ _ _ h => h) (Or.inl ⟨by rfl, fun _ hSw => by (try dsimp only at hSw); go_simp⟩) hHeld ?_
          simp only [Act.put, List.setIfInBounds_toArray, List.set_cons_zero, List.set_cons_succ]
          refine wpAnyH_take (i := 9) (oi := ⟨some 159, Op.lookup 28 (.tmp 154) (.tmp 158) false, 52, _, _, some (2, false)⟩) (v := .agg (lc t y)) rfl (by kernel_rfl) (by kernel_rfl) (by kernel_rfl) (fun _ _ _ h => h) (Or.inl ⟨by rfl, fun _ hSw => by (try dsimp only at hSw); go_simp⟩) hHeld ?_
          simp only [Act.put, List.setIfInBounds_toArray, List.set_cons_zero, List.set_cons_succ]
          refine wpAnyH_take (i := 10) (oi := ⟨some 160, Op.binOp BinOp.neq 52 (.tmp 153) (.tmp 159) 52, 4, _, _, some (2, false)⟩) (v := .bool false) rfl (by kernel_rfl) (by kernel_rfl) (by kernel_rfl) (fun _ _ _ h => h) (Or.inl ⟨by rfl, fun _ hSw => by (try dsimp only at hSw); go_simp⟩) hHeld ?_
          simp only [Act.put, List.setIfInBounds_toArray, List.set_cons_zero, List.set_cons_succ]
          refine wpAnyH_take (i := 11) (oi := ⟨some 161, Op.pick (.tmp 152) (.const (.bool true)) (.tmp 160), 4, _, _, none⟩) (v := .bool false) rfl (by kernel_rfl) (by kernel_rfl) (by kernel_rfl) (fun _ _ _ h => h) (Or.inl ⟨by rfl, fun _ hSw => by (try dsimp only at hSw); go_simp⟩) hHeld ?_
          simp only [Act.put, List.setIfInBounds_toArray, List.set_cons_zero, List.set_cons_succ]
          refine wpAnyH_done (by kernel_rfl) ?_ _
          go_wp2
          go_roundw
          case rel => exact ⟨m + 1, by omega, by go_num, HLay.out.below ((bel1 _ _).drew), HC.out.below ((bel1 _ _).drew)⟩
          case measure => simp [intOf]; omega
        · obtain rfl : m = ni := by omega
          clear hm hlt
          go_wp2_with fail
          rw [show ((k : Int) + (m : Int)) = ((k + m : Nat) : Int) from by omega]
          refine (absent12 A L k m (k + m) DA DL (by omega) HaA.out HaL.out (by have := HLay.out.mA.size_le; have := HLay.out.mL.size_le; omega) wr HLay.out.mA HLay.out.mL).mono ?_
          rintro e w5 ⟨h, rfl, hh, hhA, hhL, hb5⟩
          have HL5 : Hid (Lay w a i k m nm im ct la A L s DA DL w5) := HLay.out.below hb5
          have HC5 : Hid (LayC CA CL k m DA DL w5) := HC.out.below hb5
          clear hb5 HLay HC
          have hks : (hashes h).size ≤ maxLen := by rw [hashes_size]; unfold maxLen; omega
          have hw2 : w.heap.size ≤ w2.heap.size := by omega
          by_cases hk0 : 0 < k
          · by_cases hm0 : 0 < m
            · obtain ⟨b, off, rfl, hcN⟩ := HN.out hk0
              have hbN : b < w.heap.size := block_lt_of_cell (hcN 0 hk0)
              have hszN := HNS.out 0 hk0
              have hhasN := dA_has nm de nd k 0 hk0
              rw [← HDA.out] at hhasN
              have hcN0 := hcN 0 hk0
              rw [Nat.add_zero] at hcN0
              obtain ⟨xN, hxN⟩ : ∃ x, x = nm 0 := ⟨_, rfl⟩
              rw [← hxN] at hcN0 hszN hhasN
              have HcN : Hid (∀ W', Below w.heap.size w W' → W'.cell? ⟨b, off, none⟩ = some (.string xN)) := fun W' hb => (hb.cell (p := ⟨b, off, none⟩) hbN).trans hcN0
              clear hcN hxN hcN0
              obtain ⟨b2, off2, rfl, hcI⟩ := HI.out hm0
              have hbI : b2 < w.heap.size := block_lt_of_cell (hcI 0 hm0)
              have hszI := HIS.out 0 hm0
              have hhasI := dL_has openS im m 0 hm0
              rw [← HDL.out] at hhasI
              have hcI0 := hcI 0 hm0
              rw [Nat.add_zero] at hcI0
              obtain ⟨xI, hxI⟩ : ∃ x, x = im 0 := ⟨_, rfl⟩
              rw [← hxI] at hcI0 hszI hhasI
              have HcI : Hid (∀ W', Below w.heap.size w W' → W'.cell? ⟨b2, off2, none⟩ = some (.string xI)) := fun W' hb => (hb.cell (p := ⟨b2, off2, none⟩) hbI).trans hcI0
              clear hcI hxI hcI0
              go_wp2_with (first
                | (at_mapUpdate; refine wpList_mapUpdate_own _ rfl _ _ _ 27 rfl 9 39 law9 Try.underlying27 valElem CA k DA rfl HC5.out.mA (by unfold maxLen; omega) _ _ _ rfl rfl (keyOf9 hks) (.held (assetV (hashes h) 1)) [] rfl ?_; intro w6 hown6 hg6; have HL6 : Hid (Lay w (some ⟨b, off, none⟩) (some ⟨b2, off2, none⟩) k m nm im ct la A L s DA DL w6) := HL5.out.grown HN.out HI.out hg6 (by omega) (by omega) (by omega) (by omega); have HCL6 : Hid (w6.ownsMap Try.prog 9 valElem CL m DL) := HC5.out.mL.kept hg6 (by simp; omega); have HCA6 : Hid (w6.ownsMap Try.prog 9 valElem CA (k + 1) (DA.put (key (hashes h)) (.held (assetV (hashes h) 1)))) := hown6; clear hown6 hg6)
                | (at_mapUpdate; refine wpList_mapUpdate_own _ rfl _ _ _ 28 rfl 9 52 law9 Try.underlying28 valElem CL m DL rfl HCL6.out (by unfold maxLen; omega) _ (loanV (hashes h) openS) _ rfl rfl (keyOf9 hks) (.held (loanV (hashes h) openS)) [] rfl ?_; intro w7 hown7 hg7; have HL7 : Hid (Lay w (some ⟨b, off, none⟩) (some ⟨b2, off2, none⟩) k m nm im ct la A L s DA DL w7) := HL6.out.grown HN.out HI.out hg7 (by omega) (by omega) (by omega) (by omega); have HCA7 : Hid (w7.ownsMap Try.prog 9 valElem CA (k + 1) (DA.put (key (hashes h)) (.held (assetV (hashes h) 1)))) := HCA6.out.kept hg7 (by simp; omega); have HCL7 : Hid (w7.ownsMap Try.prog 9 valElem CL (m + 1) (DL.put (key (hashes h)) (.held (loanV (hashes h) openS)))) := hown7; clear hown7 hg7; have hcN7 := HcN.out w7 HL7.out.bel)
                | (at_delete; refine wpList_delete_own _ rfl _ _ 27 9 rfl 39 law9 Try.underlying27 _ CA (k + 1) _ rfl HCA7.out _ _ rfl (keyOf9 hszN) ?_; intro w8 hown8 ht8; have HL8 : Hid (Lay w (some ⟨b, off, none⟩) (some ⟨b2, off2, none⟩) k m nm im ct la A L s DA DL w8) := HL7.out.grown HN.out HI.out ht8.grown (by omega) (by omega) (by omega) (by omega); have HCL8 : Hid (w8.ownsMap Try.prog 9 valElem CL (m + 1) (DL.put (key (hashes h)) (.held (loanV (hashes h) openS)))) := HCL7.out.kept ht8.grown (by simp; omega); have hcI8 := HcI.out w8 HL8.out.bel; clear hown8 ht8)
                | (at_delete; refine wpList_delete_own _ rfl _ _ 28 9 rfl 52 law9 Try.underlying28 _ CL (m + 1) _ rfl HCL8.out _ _ rfl (keyOf9 hszI) ?_; intro w9 hown9 ht9; have HL9 : Hid (Lay w (some ⟨b, off, none⟩) (some ⟨b2, off2, none⟩) k m nm im ct la A L s DA DL w9) := HL8.out.grown HN.out HI.out ht9.grown (by omega) (by omega) (by omega) (by omega); clear hown9 ht9))
              refine (fields11' ct la A L s _ HL9.out.st).mono ?_
              rintro e w10 ⟨rfl, hb10⟩
              have HL10 : Hid (Lay w (some ⟨b, off, none⟩) (some ⟨b2, off2, none⟩) k m nm im ct la A L s DA DL w10) := HL9.out.below hb10
              have HA10 : Hid (∀ W', Below w10.heap.size w10 W' → W'.ownsMap Try.prog 9 valElem A k DA) := fun W' hb => ownsMap_below HL10.out.mA hb HL10.out.mA.lt
              have HLL10 : Hid (∀ W', Below w10.heap.size w10 W' → W'.ownsMap Try.prog 9 valElem L m DL) := fun W' hb => ownsMap_below HL10.out.mL hb HL10.out.mL.lt
              clear hb10
              have hl1 : ∀ ty, (Builtin.len_ #[27] ty #[.map (some A)]).run Try.prog w10 = .ok (.int .i64 (Maps.size DA)) w10 := fun ty => HL10.out.mA.len Try.underlying27 ty
              have hl2 : ∀ ty, (Builtin.len_ #[28] ty #[.map (some L)]).run Try.prog w10 = .ok (.int .i64 (Maps.size DL)) w10 := fun ty => HL10.out.mL.len Try.underlying28 ty
              have hz := zero52
              have hw10 : w.heap.size ≤ w10.heap.size := HL10.out.bel.size
              have hcN10 := HcN.out w10 HL10.out.bel
              have hbN0 : b < w10.heap.size := by omega
              have hbN1 : b < w10.heap.size + 1 := by omega
              have hbN2 : b < w10.heap.size + 1 + 1 := by omega
              have hcI10 := HcI.out w10 HL10.out.bel
              have hbI0 : b2 < w10.heap.size := by omega
              have hbI1 : b2 < w10.heap.size + 1 := by omega
              have hbI2 : b2 < w10.heap.size + 1 + 1 := by omega
              have hbI3 : b2 < w10.heap.size + 1 + 1 + 1 := by omega
              go_wp2_with (first
                | (at_lookup; refine wpList_lookA _ rfl _ _ rfl A k DA HaA.out rfl (HA10.out _ (by first | exact Below.refl _ _ | exact bel1 _ _ | exact (bel1 _ _).alloc (by simp) _ | exact ((bel1 _ _).alloc (by simp) _).alloc (by simp; omega) _)) (hashes h) rfl hks ?_; intro t y hty; clear hty)
                | (at_lookup; refine wpList_lookL _ rfl _ _ rfl L m DL HaL.out rfl (HLL10.out _ (by first | exact Below.refl _ _ | exact bel1 _ _ | exact (bel1 _ _).alloc (by simp) _ | exact ((bel1 _ _).alloc (by simp) _).alloc (by simp; omega) _)) (hashes h) rfl hks ?_; intro t y hty; clear hty)
                | (at_lookup; refine wpList_lookA _ rfl _ _ rfl A k DA HaA.out rfl (HA10.out _ (by first | exact Below.refl _ _ | exact bel1 _ _ | exact (bel1 _ _).alloc (by simp) _ | exact ((bel1 _ _).alloc (by simp) _).alloc (by simp; omega) _)) xN rfl hszN ?_; intro t y hty; clear hty)
                | (at_lookup; refine wpList_lookL _ rfl _ _ rfl L m DL HaL.out rfl (HLL10.out _ (by first | exact Below.refl _ _ | exact bel1 _ _ | exact (bel1 _ _).alloc (by simp) _ | exact ((bel1 _ _).alloc (by simp) _).alloc (by simp; omega) _)) xI rfl hszI ?_; intro t y hty; clear hty)
                | (with_reducible show wpList _ _ _ (Oper.mk _ (Op.store 52 _ _) _ _ _ _ :: _) _ _; refine wpList_storeL _ rfl _ _ rfl _ _ _ _ _ ?_ rfl rfl ?_; (simp)))
              go_ret
              exact ⟨rfl, by first | exact (HL10.out.bel.alloc hw10 _).alloc (by simp; omega) _ | exact ((HL10.out.bel.alloc hw10 _).alloc (by simp; omega) _).alloc (by simp; omega) _ | exact (((HL10.out.bel.alloc hw10 _).alloc (by simp; omega) _).alloc (by simp; omega) _).alloc (by simp; omega) _⟩
            · obtain ⟨b, off, rfl, hcN⟩ := HN.out hk0
              have hbN : b < w.heap.size := block_lt_of_cell (hcN 0 hk0)
              have hszN := HNS.out 0 hk0
              have hhasN := dA_has nm de nd k 0 hk0
              rw [← HDA.out] at hhasN
              have hcN0 := hcN 0 hk0
              rw [Nat.add_zero] at hcN0
              obtain ⟨xN, hxN⟩ : ∃ x, x = nm 0 := ⟨_, rfl⟩
              rw [← hxN] at hcN0 hszN hhasN
              have HcN : Hid (∀ W', Below w.heap.size w W' → W'.cell? ⟨b, off, none⟩ = some (.string xN)) := fun W' hb => (hb.cell (p := ⟨b, off, none⟩) hbN).trans hcN0
              clear hcN hxN hcN0
              go_wp2_with (first
                | (at_mapUpdate; refine wpList_mapUpdate_own _ rfl _ _ _ 27 rfl 9 39 law9 Try.underlying27 valElem CA k DA rfl HC5.out.mA (by unfold maxLen; omega) _ _ _ rfl rfl (keyOf9 hks) (.held (assetV (hashes h) 1)) [] rfl ?_; intro w6 hown6 hg6; have HL6 : Hid (Lay w (some ⟨b, off, none⟩) i k m nm im ct la A L s DA DL w6) := HL5.out.grown HN.out HI.out hg6 (by omega) (by omega) (by omega) (by omega); have HCL6 : Hid (w6.ownsMap Try.prog 9 valElem CL m DL) := HC5.out.mL.kept hg6 (by simp; omega); have HCA6 : Hid (w6.ownsMap Try.prog 9 valElem CA (k + 1) (DA.put (key (hashes h)) (.held (assetV (hashes h) 1)))) := hown6; clear hown6 hg6)
                | (at_mapUpdate; refine wpList_mapUpdate_own _ rfl _ _ _ 28 rfl 9 52 law9 Try.underlying28 valElem CL m DL rfl HCL6.out (by unfold maxLen; omega) _ (loanV (hashes h) openS) _ rfl rfl (keyOf9 hks) (.held (loanV (hashes h) openS)) [] rfl ?_; intro w7 hown7 hg7; have HL7 : Hid (Lay w (some ⟨b, off, none⟩) i k m nm im ct la A L s DA DL w7) := HL6.out.grown HN.out HI.out hg7 (by omega) (by omega) (by omega) (by omega); have HCA7 : Hid (w7.ownsMap Try.prog 9 valElem CA (k + 1) (DA.put (key (hashes h)) (.held (assetV (hashes h) 1)))) := HCA6.out.kept hg7 (by simp; omega); have HCL7 : Hid (w7.ownsMap Try.prog 9 valElem CL (m + 1) (DL.put (key (hashes h)) (.held (loanV (hashes h) openS)))) := hown7; clear hown7 hg7; have hcN7 := HcN.out w7 HL7.out.bel)
                | (at_delete; refine wpList_delete_own _ rfl _ _ 27 9 rfl 39 law9 Try.underlying27 _ CA (k + 1) _ rfl HCA7.out _ _ rfl (keyOf9 hszN) ?_; intro w8 hown8 ht8; have HL8 : Hid (Lay w (some ⟨b, off, none⟩) i k m nm im ct la A L s DA DL w8) := HL7.out.grown HN.out HI.out ht8.grown (by omega) (by omega) (by omega) (by omega); have HCL8 : Hid (w8.ownsMap Try.prog 9 valElem CL (m + 1) (DL.put (key (hashes h)) (.held (loanV (hashes h) openS)))) := HCL7.out.kept ht8.grown (by simp; omega); clear hown8 ht8))
              refine (fields11' ct la A L s _ HL8.out.st).mono ?_
              rintro e w10 ⟨rfl, hb10⟩
              have HL10 : Hid (Lay w (some ⟨b, off, none⟩) i k m nm im ct la A L s DA DL w10) := HL8.out.below hb10
              have HA10 : Hid (∀ W', Below w10.heap.size w10 W' → W'.ownsMap Try.prog 9 valElem A k DA) := fun W' hb => ownsMap_below HL10.out.mA hb HL10.out.mA.lt
              have HLL10 : Hid (∀ W', Below w10.heap.size w10 W' → W'.ownsMap Try.prog 9 valElem L m DL) := fun W' hb => ownsMap_below HL10.out.mL hb HL10.out.mL.lt
              clear hb10
              have hl1 : ∀ ty, (Builtin.len_ #[27] ty #[.map (some A)]).run Try.prog w10 = .ok (.int .i64 (Maps.size DA)) w10 := fun ty => HL10.out.mA.len Try.underlying27 ty
              have hl2 : ∀ ty, (Builtin.len_ #[28] ty #[.map (some L)]).run Try.prog w10 = .ok (.int .i64 (Maps.size DL)) w10 := fun ty => HL10.out.mL.len Try.underlying28 ty
              have hz := zero52
              have hw10 : w.heap.size ≤ w10.heap.size := HL10.out.bel.size
              have hcN10 := HcN.out w10 HL10.out.bel
              have hbN0 : b < w10.heap.size := by omega
              have hbN1 : b < w10.heap.size + 1 := by omega
              have hbN2 : b < w10.heap.size + 1 + 1 := by omega
              go_wp2_with (first
                | (at_lookup; refine wpList_lookA _ rfl _ _ rfl A k DA HaA.out rfl (HA10.out _ (by first | exact Below.refl _ _ | exact bel1 _ _ | exact (bel1 _ _).alloc (by simp) _ | exact ((bel1 _ _).alloc (by simp) _).alloc (by simp; omega) _)) (hashes h) rfl hks ?_; intro t y hty; clear hty)
                | (at_lookup; refine wpList_lookL _ rfl _ _ rfl L m DL HaL.out rfl (HLL10.out _ (by first | exact Below.refl _ _ | exact bel1 _ _ | exact (bel1 _ _).alloc (by simp) _ | exact ((bel1 _ _).alloc (by simp) _).alloc (by simp; omega) _)) (hashes h) rfl hks ?_; intro t y hty; clear hty)
                | (at_lookup; refine wpList_lookA _ rfl _ _ rfl A k DA HaA.out rfl (HA10.out _ (by first | exact Below.refl _ _ | exact bel1 _ _ | exact (bel1 _ _).alloc (by simp) _ | exact ((bel1 _ _).alloc (by simp) _).alloc (by simp; omega) _)) xN rfl hszN ?_; intro t y hty; clear hty)
                | (with_reducible show wpList _ _ _ (Oper.mk _ (Op.store 52 _ _) _ _ _ _ :: _) _ _; refine wpList_storeL _ rfl _ _ rfl _ _ _ _ _ ?_ rfl rfl ?_; (simp)))
              go_ret
              exact ⟨rfl, by first | exact (HL10.out.bel.alloc hw10 _).alloc (by simp; omega) _ | exact ((HL10.out.bel.alloc hw10 _).alloc (by simp; omega) _).alloc (by simp; omega) _ | exact (((HL10.out.bel.alloc hw10 _).alloc (by simp; omega) _).alloc (by simp; omega) _).alloc (by simp; omega) _⟩
          · by_cases hm0 : 0 < m
            · obtain ⟨b2, off2, rfl, hcI⟩ := HI.out hm0
              have hbI : b2 < w.heap.size := block_lt_of_cell (hcI 0 hm0)
              have hszI := HIS.out 0 hm0
              have hhasI := dL_has openS im m 0 hm0
              rw [← HDL.out] at hhasI
              have hcI0 := hcI 0 hm0
              rw [Nat.add_zero] at hcI0
              obtain ⟨xI, hxI⟩ : ∃ x, x = im 0 := ⟨_, rfl⟩
              rw [← hxI] at hcI0 hszI hhasI
              have HcI : Hid (∀ W', Below w.heap.size w W' → W'.cell? ⟨b2, off2, none⟩ = some (.string xI)) := fun W' hb => (hb.cell (p := ⟨b2, off2, none⟩) hbI).trans hcI0
              clear hcI hxI hcI0
              go_wp2_with (first
                | (at_mapUpdate; refine wpList_mapUpdate_own _ rfl _ _ _ 27 rfl 9 39 law9 Try.underlying27 valElem CA k DA rfl HC5.out.mA (by unfold maxLen; omega) _ _ _ rfl rfl (keyOf9 hks) (.held (assetV (hashes h) 1)) [] rfl ?_; intro w6 hown6 hg6; have HL6 : Hid (Lay w a (some ⟨b2, off2, none⟩) k m nm im ct la A L s DA DL w6) := HL5.out.grown HN.out HI.out hg6 (by omega) (by omega) (by omega) (by omega); have HCL6 : Hid (w6.ownsMap Try.prog 9 valElem CL m DL) := HC5.out.mL.kept hg6 (by simp; omega); have HCA6 : Hid (w6.ownsMap Try.prog 9 valElem CA (k + 1) (DA.put (key (hashes h)) (.held (assetV (hashes h) 1)))) := hown6; clear hown6 hg6)
                | (at_mapUpdate; refine wpList_mapUpdate_own _ rfl _ _ _ 28 rfl 9 52 law9 Try.underlying28 valElem CL m DL rfl HCL6.out (by unfold maxLen; omega) _ (loanV (hashes h) openS) _ rfl rfl (keyOf9 hks) (.held (loanV (hashes h) openS)) [] rfl ?_; intro w7 hown7 hg7; have HL7 : Hid (Lay w a (some ⟨b2, off2, none⟩) k m nm im ct la A L s DA DL w7) := HL6.out.grown HN.out HI.out hg7 (by omega) (by omega) (by omega) (by omega); have HCA7 : Hid (w7.ownsMap Try.prog 9 valElem CA (k + 1) (DA.put (key (hashes h)) (.held (assetV (hashes h) 1)))) := HCA6.out.kept hg7 (by simp; omega); have HCL7 : Hid (w7.ownsMap Try.prog 9 valElem CL (m + 1) (DL.put (key (hashes h)) (.held (loanV (hashes h) openS)))) := hown7; clear hown7 hg7; have hcI7 := HcI.out w7 HL7.out.bel)
                | (at_delete; refine wpList_delete_own _ rfl _ _ 28 9 rfl 52 law9 Try.underlying28 _ CL (m + 1) _ rfl HCL7.out _ _ rfl (keyOf9 hszI) ?_; intro w8 hown8 ht8; have HL8 : Hid (Lay w a (some ⟨b2, off2, none⟩) k m nm im ct la A L s DA DL w8) := HL7.out.grown HN.out HI.out ht8.grown (by omega) (by omega) (by omega) (by omega); clear hown8 ht8))
              refine (fields11' ct la A L s _ HL8.out.st).mono ?_
              rintro e w10 ⟨rfl, hb10⟩
              have HL10 : Hid (Lay w a (some ⟨b2, off2, none⟩) k m nm im ct la A L s DA DL w10) := HL8.out.below hb10
              have HA10 : Hid (∀ W', Below w10.heap.size w10 W' → W'.ownsMap Try.prog 9 valElem A k DA) := fun W' hb => ownsMap_below HL10.out.mA hb HL10.out.mA.lt
              have HLL10 : Hid (∀ W', Below w10.heap.size w10 W' → W'.ownsMap Try.prog 9 valElem L m DL) := fun W' hb => ownsMap_below HL10.out.mL hb HL10.out.mL.lt
              clear hb10
              have hl1 : ∀ ty, (Builtin.len_ #[27] ty #[.map (some A)]).run Try.prog w10 = .ok (.int .i64 (Maps.size DA)) w10 := fun ty => HL10.out.mA.len Try.underlying27 ty
              have hl2 : ∀ ty, (Builtin.len_ #[28] ty #[.map (some L)]).run Try.prog w10 = .ok (.int .i64 (Maps.size DL)) w10 := fun ty => HL10.out.mL.len Try.underlying28 ty
              have hz := zero52
              have hw10 : w.heap.size ≤ w10.heap.size := HL10.out.bel.size
              have hcI10 := HcI.out w10 HL10.out.bel
              have hbI0 : b2 < w10.heap.size := by omega
              have hbI1 : b2 < w10.heap.size + 1 := by omega
              have hbI2 : b2 < w10.heap.size + 1 + 1 := by omega
              have hbI3 : b2 < w10.heap.size + 1 + 1 + 1 := by omega
              go_wp2_with (first
                | (at_lookup; refine wpList_lookA _ rfl _ _ rfl A k DA HaA.out rfl (HA10.out _ (by first | exact Below.refl _ _ | exact bel1 _ _ | exact (bel1 _ _).alloc (by simp) _ | exact ((bel1 _ _).alloc (by simp) _).alloc (by simp; omega) _)) (hashes h) rfl hks ?_; intro t y hty; clear hty)
                | (at_lookup; refine wpList_lookL _ rfl _ _ rfl L m DL HaL.out rfl (HLL10.out _ (by first | exact Below.refl _ _ | exact bel1 _ _ | exact (bel1 _ _).alloc (by simp) _ | exact ((bel1 _ _).alloc (by simp) _).alloc (by simp; omega) _)) (hashes h) rfl hks ?_; intro t y hty; clear hty)
                | (at_lookup; refine wpList_lookL _ rfl _ _ rfl L m DL HaL.out rfl (HLL10.out _ (by first | exact Below.refl _ _ | exact bel1 _ _ | exact (bel1 _ _).alloc (by simp) _ | exact ((bel1 _ _).alloc (by simp) _).alloc (by simp; omega) _)) xI rfl hszI ?_; intro t y hty; clear hty)
                | (with_reducible show wpList _ _ _ (Oper.mk _ (Op.store 52 _ _) _ _ _ _ :: _) _ _; refine wpList_storeL _ rfl _ _ rfl _ _ _ _ _ ?_ rfl rfl ?_; (simp)))
              go_ret
              exact ⟨rfl, by first | exact (HL10.out.bel.alloc hw10 _).alloc (by simp; omega) _ | exact ((HL10.out.bel.alloc hw10 _).alloc (by simp; omega) _).alloc (by simp; omega) _ | exact (((HL10.out.bel.alloc hw10 _).alloc (by simp; omega) _).alloc (by simp; omega) _).alloc (by simp; omega) _⟩
            · go_wp2_with (first
                | (at_mapUpdate; refine wpList_mapUpdate_own _ rfl _ _ _ 27 rfl 9 39 law9 Try.underlying27 valElem CA k DA rfl HC5.out.mA (by unfold maxLen; omega) _ _ _ rfl rfl (keyOf9 hks) (.held (assetV (hashes h) 1)) [] rfl ?_; intro w6 hown6 hg6; have HL6 : Hid (Lay w a i k m nm im ct la A L s DA DL w6) := HL5.out.grown HN.out HI.out hg6 (by omega) (by omega) (by omega) (by omega); have HCL6 : Hid (w6.ownsMap Try.prog 9 valElem CL m DL) := HC5.out.mL.kept hg6 (by simp; omega); have HCA6 : Hid (w6.ownsMap Try.prog 9 valElem CA (k + 1) (DA.put (key (hashes h)) (.held (assetV (hashes h) 1)))) := hown6; clear hown6 hg6)
                | (at_mapUpdate; refine wpList_mapUpdate_own _ rfl _ _ _ 28 rfl 9 52 law9 Try.underlying28 valElem CL m DL rfl HCL6.out (by unfold maxLen; omega) _ (loanV (hashes h) openS) _ rfl rfl (keyOf9 hks) (.held (loanV (hashes h) openS)) [] rfl ?_; intro w7 hown7 hg7; have HL7 : Hid (Lay w a i k m nm im ct la A L s DA DL w7) := HL6.out.grown HN.out HI.out hg7 (by omega) (by omega) (by omega) (by omega); have HCA7 : Hid (w7.ownsMap Try.prog 9 valElem CA (k + 1) (DA.put (key (hashes h)) (.held (assetV (hashes h) 1)))) := HCA6.out.kept hg7 (by simp; omega); have HCL7 : Hid (w7.ownsMap Try.prog 9 valElem CL (m + 1) (DL.put (key (hashes h)) (.held (loanV (hashes h) openS)))) := hown7; clear hown7 hg7))
              refine (fields11' ct la A L s _ HL7.out.st).mono ?_
              rintro e w10 ⟨rfl, hb10⟩
              have HL10 : Hid (Lay w a i k m nm im ct la A L s DA DL w10) := HL7.out.below hb10
              have HA10 : Hid (∀ W', Below w10.heap.size w10 W' → W'.ownsMap Try.prog 9 valElem A k DA) := fun W' hb => ownsMap_below HL10.out.mA hb HL10.out.mA.lt
              have HLL10 : Hid (∀ W', Below w10.heap.size w10 W' → W'.ownsMap Try.prog 9 valElem L m DL) := fun W' hb => ownsMap_below HL10.out.mL hb HL10.out.mL.lt
              clear hb10
              have hl1 : ∀ ty, (Builtin.len_ #[27] ty #[.map (some A)]).run Try.prog w10 = .ok (.int .i64 (Maps.size DA)) w10 := fun ty => HL10.out.mA.len Try.underlying27 ty
              have hl2 : ∀ ty, (Builtin.len_ #[28] ty #[.map (some L)]).run Try.prog w10 = .ok (.int .i64 (Maps.size DL)) w10 := fun ty => HL10.out.mL.len Try.underlying28 ty
              have hz := zero52
              have hw10 : w.heap.size ≤ w10.heap.size := HL10.out.bel.size
              go_wp2_with (first
                | (at_lookup; refine wpList_lookA _ rfl _ _ rfl A k DA HaA.out rfl (HA10.out _ (by first | exact Below.refl _ _ | exact bel1 _ _ | exact (bel1 _ _).alloc (by simp) _ | exact ((bel1 _ _).alloc (by simp) _).alloc (by simp; omega) _)) (hashes h) rfl hks ?_; intro t y hty; clear hty)
                | (at_lookup; refine wpList_lookL _ rfl _ _ rfl L m DL HaL.out rfl (HLL10.out _ (by first | exact Below.refl _ _ | exact bel1 _ _ | exact (bel1 _ _).alloc (by simp) _ | exact ((bel1 _ _).alloc (by simp) _).alloc (by simp; omega) _)) (hashes h) rfl hks ?_; intro t y hty; clear hty)
                | (with_reducible show wpList _ _ _ (Oper.mk _ (Op.store 52 _ _) _ _ _ _ :: _) _ _; refine wpList_storeL _ rfl _ _ rfl _ _ _ _ _ ?_ rfl rfl ?_; (simp)))
              go_ret
              exact ⟨rfl, by first | exact (HL10.out.bel.alloc hw10 _).alloc (by simp; omega) _ | exact ((HL10.out.bel.alloc hw10 _).alloc (by simp; omega) _).alloc (by simp; omega) _ | exact (((HL10.out.bel.alloc hw10 _).alloc (by simp; omega) _).alloc (by simp; omega) _).alloc (by simp; omega) _⟩
end Go.Proofs.Qxb6612305a
