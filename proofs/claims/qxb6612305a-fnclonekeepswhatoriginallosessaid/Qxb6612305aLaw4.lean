import Derived.Test.Qxb6612305aRowsOf
namespace Go.Proofs.Qxb6612305a
open Go.RowKit

section
variable (w : World) {ops : Array Oper} {rest : List Oper} {o : Oper} {a : Act} {Q : Exit → Act → World → Prop}
/-- .. where the element at the key is known -/
theorem wpList_lookA' (hg : o.guard = none) (m x : Operand) (hop : o.op = Op.lookup 27 m x true) (b n : Nat) (D : DataW Value) (hm : a.eval m = .map (some b)) (hown : w.ownsMap Try.prog 9 valElem b n D)
    (s : ByteArray) (hx : a.eval x = .string s) (hs : s.size ≤ maxLen) (t : ByteArray) (y : Int) (hat : D.atKey (key s) (.held zA) = .held (assetV t y))
    (hK : wpList Try.prog ops Q rest (a.put o.dst (.tuple #[.agg #[.string t, .int .i64 y], .bool (Maps.has D (key s))])) w) :
    wpList Try.prog ops Q (o :: rest) a w :=
  wpList_lookup_own_ok w hg m x 27 hop 9 39 law9 Try.underlying27 valElem (zero39 w) (.held zA) [] rfl b n D hm hown _ _ hx (keyOf9 hs) (fun v ps hv => by
    rw [hat] at hv
    injection hv with hv
    injection hv with hv1 _
    injection hv1 with hv2
    subst hv2
    exact hK)
theorem wpList_lookL' (hg : o.guard = none) (m x : Operand) (hop : o.op = Op.lookup 28 m x true) (b n : Nat) (D : DataW Value) (hm : a.eval m = .map (some b)) (hown : w.ownsMap Try.prog 9 valElem b n D)
    (s : ByteArray) (hx : a.eval x = .string s) (hs : s.size ≤ maxLen) (t y : ByteArray) (hat : D.atKey (key s) (.held zL) = .held (loanV t y))
    (hK : wpList Try.prog ops Q rest (a.put o.dst (.tuple #[.agg (lc t y), .bool (Maps.has D (key s))])) w) :
    wpList Try.prog ops Q (o :: rest) a w :=
  wpList_lookup_own_ok w hg m x 28 hop 9 52 law9 Try.underlying28 valElem (zero52' w) (.held zL) [] rfl b n D hm hown _ _ hx (keyOf9 hs) (fun v ps hv => by
    rw [hat] at hv
    injection hv with hv
    injection hv with hv1 _
    injection hv1 with hv2
    subst hv2
    exact hK)
end

set_option maxHeartbeats 4000000 in
set_option maxRecDepth 100000 in
theorem law4_any (ct la : Int) (a d i : Option Addr) (n nc nd dc ni ic : Nat) (nm im : Nat → ByteArray) (de : Nat → Int) (hm : n ≤ maxLen) (hdm : nd ≤ maxLen) (him : ni ≤ maxLen)
    (hns : ∀ j, j < n → (nm j).size ≤ maxLen) (his : ∀ j, j < ni → (im j).size ≤ maxLen) (w : World) (hn : Strs w a n nm) (hd : Ints w d nd de) (hi : Strs w i ni im) :
    Calls Try.prog 4 #[.int .i64 ct, .int .i64 la, .slice a n nc, .slice d nd dc, .slice i ni ic] w fun e w' => e = .returned (.bool true) ∧ Below w.heap.size w w' := by
  have HN : Hid (Strs w a n nm) := hn
  have HD : Hid (Ints w d nd de) := hd
  have HI : Hid (Strs w i ni im) := hi
  have HNS : Hid (∀ j, j < n → (nm j).size ≤ maxLen) := hns
  have HIS : Hid (∀ j, j < ni → (im j).size ≤ maxLen) := his
  clear hn hd hi hns his
  go_enter Try.func4, Try.ntmps4
  go_wp2_with fail
  refine (bytes13_any ct la a d i n nc nd dc ni ic nm im hm hdm him _ HN.out HI.out).mono ?_
  rintro e w' ⟨⟨r, rfl⟩, rfl⟩
  cases r
  · go_wp2
    go_ret
    exact ⟨rfl, Below.refl _ _⟩
  go_wp2_with fail
  refine (size6_any a d i n nc nd dc ni ic nm im hm hdm him _ HN.out HI.out).mono ?_
  rintro e w' ⟨⟨r, rfl, hr⟩, rfl⟩
  cases r
  · clear hr
    go_wp2
    go_ret
    exact ⟨rfl, Below.refl _ _⟩
  obtain ⟨hn4, hd4, hi4⟩ := hr rfl
  clear hr hm hdm him
  go_wp2_with fail
  refine (premise7_any ct la a i n nc ni ic hn4 hi4 _).mono ?_
  rintro e w' ⟨⟨r, rfl⟩, rfl⟩
  cases r
  · go_wp2
    go_ret
    exact ⟨rfl, Below.refl _ _⟩
  go_wp2_with fail
  refine (maps8_any a d i n nc nd dc ni ic nm im de hn4 hd4 hi4 HNS.out HIS.out _ HN.out HD.out HI.out).mono ?_
  rintro e w1 ⟨L, rfl, hAL, hoA, hoL, hb1⟩
  obtain ⟨A, hA⟩ : ∃ A, A = w.heap.size := ⟨_, rfl⟩
  rw [← hA] at hoA hAL
  rw [← hA]
  obtain ⟨DA, hDA⟩ : ∃ D, D = dA nm de nd n := ⟨_, rfl⟩
  obtain ⟨DL, hDL⟩ : ∃ D, D = dL openS im ni := ⟨_, rfl⟩
  rw [← hDA] at hoA
  rw [← hDL] at hoL
  have HA0 : Hid (A = w.heap.size) := hA
  have HDA : Hid (DA = dA nm de nd n) := hDA
  have HDL : Hid (DL = dL openS im ni) := hDL
  have HoA : Hid (w1.ownsMap Try.prog 9 valElem A n DA) := hoA
  have HoL : Hid (w1.ownsMap Try.prog 9 valElem L ni DL) := hoL
  have HB1 : Hid (Below w.heap.size w w1) := hb1
  clear hA hDA hDL hoA hoL hb1
  go_wp2_with (first
    | (at_len; refine wpList_len_own _ rfl _ 27 rfl 9 39 Try.underlying27 _ A n DA rfl HoA.out ?_)
    | (at_len; refine wpList_len_own _ rfl _ 28 rfl 9 52 Try.underlying28 _ L ni DL rfl HoL.out ?_)
    | (go_at_call 9; refine (newState9 ct la A L _).mono ?_; rintro e w' ⟨rfl, rfl⟩))
  obtain ⟨s, hs⟩ : ∃ s, s = w1.heap.size := ⟨_, rfl⟩
  rw [← hs]
  have hst0 : St (w1.alloc (.cells #[.int .i64 ct, .int .i64 la, .map (some A), .map (some L)] 34)) s ct la A L := by
    subst hs
    exact ⟨World.cell?_alloc_at _ _ _ _ rfl, World.cell?_alloc_at _ _ _ _ rfl, World.cell?_alloc_at _ _ _ _ rfl, World.cell?_alloc_at _ _ _ _ rfl⟩
  have hLay0 : Lay w a i n ni nm im ct la A L s DA DL (w1.alloc (.cells #[.int .i64 ct, .int .i64 la, .map (some A), .map (some L)] 34)) :=
    ⟨HoA.out.alloc _, HoL.out.alloc _, hst0, (HN.out.below HB1.out).below (bel1 _ _), (HI.out.below HB1.out).below (bel1 _ _), HB1.out.alloc HB1.out.size _⟩
  have hwA : w.heap.size ≤ A := by rw [HA0.out]; exact Nat.le_refl _
  clear hs hst0 HoA HoL HB1 HA0
  generalize w1.alloc (.cells #[.int .i64 ct, .int .i64 la, .map (some A), .map (some L)] 34) = w2 at *
  refine (zzclone10 ct la A L s n ni DA DL w2 hLay0.st hLay0.mA hLay0.mL).mono ?_
  rintro e w3 ⟨CA, CL, rfl, hCA, hCL, hcA, hcL, hb3⟩
  have hAlt : A < w2.heap.size := hLay0.mA.lt
  have hLlt : L < w2.heap.size := hLay0.mL.lt
  have hCs1 := hcA.lt
  have hCs2 := hcL.lt
  have hww2 : w.heap.size ≤ w2.heap.size := hLay0.bel.size
  have hLay1 := hLay0.below hb3
  have hc0 : St (w3.alloc (.cells #[.int .i64 ct, .int .i64 la, .map (some CA), .map (some CL)] 34)) w3.heap.size ct la CA CL := ⟨World.cell?_alloc_at _ _ _ _ rfl, World.cell?_alloc_at _ _ _ _ rfl, World.cell?_alloc_at _ _ _ _ rfl, World.cell?_alloc_at _ _ _ _ rfl⟩
  have hKeep0 : Lay w a i n ni nm im ct la CA CL w3.heap.size DA DL (w3.alloc (.cells #[.int .i64 ct, .int .i64 la, .map (some CA), .map (some CL)] 34)) :=
    ⟨hcA.alloc _, hcL.alloc _, hc0, hLay1.nms.below (bel1 _ _), hLay1.ids.below (bel1 _ _), hLay1.bel.trans ((bel1 _ _).mono hLay1.bel.size)⟩
  have hOrig0 : LayC A L n ni DA DL (w3.alloc (.cells #[.int .i64 ct, .int .i64 la, .map (some CA), .map (some CL)] 34)) := ⟨hLay1.mA.alloc _, hLay1.mL.alloc _⟩
  have HKeep0 : Hid (Lay w a i n ni nm im ct la CA CL w3.heap.size DA DL (w3.alloc (.cells #[.int .i64 ct, .int .i64 la, .map (some CA), .map (some CL)] 34))) := hKeep0
  have HOrig0 : Hid (LayC A L n ni DA DL (w3.alloc (.cells #[.int .i64 ct, .int .i64 la, .map (some CA), .map (some CL)] 34))) := hOrig0
  clear hLay0 hLay1 hb3 hcA hcL hc0 hKeep0 hOrig0
  have hmkA := run_mkA n hn4
  go_wp2_with fail
  clear hmkA
  have HaA : Hid (AllA DA) := by rw [HDA.out]; exact dA_all nm de nd n
  have HaL : Hid (AllL DL) := by rw [HDL.out]; exact dL_all openS im ni
  obtain ⟨fA, hfA⟩ : ∃ f : Nat → ByteArray × Int, ∀ j, DA.atKey (key (nm j)) (.held zA) = .held (assetV (f j).1 (f j).2) :=
    ⟨fun j => ⟨(HaA.out (key (nm j))).choose, (HaA.out (key (nm j))).choose_spec.choose⟩, fun j => (HaA.out (key (nm j))).choose_spec.choose_spec⟩
  obtain ⟨fL, hfL⟩ : ∃ f : Nat → ByteArray × ByteArray, ∀ j, DL.atKey (key (im j)) (.held zL) = .held (loanV (f j).1 (f j).2) :=
    ⟨fun j => ⟨(HaL.out (key (im j))).choose, (HaL.out (key (im j))).choose_spec.choose⟩, fun j => (HaL.out (key (im j))).choose_spec.choose_spec⟩
  have HfA : Hid (∀ j, DA.atKey (key (nm j)) (.held zA) = .held (assetV (fA j).1 (fA j).2)) := hfA
  have HfL : Hid (∀ j, DL.atKey (key (im j)) (.held zL) = .held (loanV (fL j).1 (fL j).2)) := hfL
  clear hfA hfL
  have HRow0 : Hid (RowOf ((w3.alloc (.cells #[.int .i64 ct, .int .i64 la, .map (some CA), .map (some CL)] 34)).alloc (.cells (mkA n) 39)) (w3.heap.size + 1) 39 2 n (fun j => #[.string (fA j).1, .int .i64 (fA j).2]) 0) :=
    RowOf.start _ (heap_alloc2_new w3 _ _) (mkA_size n)
  have HKeep1 : Hid (Lay w a i n ni nm im ct la CA CL w3.heap.size DA DL ((w3.alloc (.cells #[.int .i64 ct, .int .i64 la, .map (some CA), .map (some CL)] 34)).alloc (.cells (mkA n) 39))) := HKeep0.out.below (bel1 _ _)
  have HOrig1 : Hid (LayC A L n ni DA DL ((w3.alloc (.cells #[.int .i64 ct, .int .i64 la, .map (some CA), .map (some CL)] 34)).alloc (.cells (mkA n) 39))) := HOrig0.out.below (bel1 _ _)
  clear HKeep0 HOrig0
  go_loopw [18] (fun t wr => ∃ k : Nat, k ≤ n ∧ t = .int .i64 k ∧ Lay w a i n ni nm im ct la CA CL w3.heap.size DA DL wr ∧ LayC A L n ni DA DL wr ∧ RowOf wr (w3.heap.size + 1) 39 2 n (fun j => #[.string (fA j).1, .int .i64 (fA j).2]) k) (fun t _ => n - (intOf t).toNat)
  case atStart => exact ⟨0, Nat.zero_le _, rfl, HKeep1.out, HOrig1.out, HRow0.out⟩
  case round =>
    clear HKeep1 HOrig1 HRow0
    obtain ⟨k, hk, rfl, hkeep, horig, hrow⟩ := hrel
    have HKeep : Hid (Lay w a i n ni nm im ct la CA CL w3.heap.size DA DL wr) := hkeep
    have HOrig : Hid (LayC A L n ni DA DL wr) := horig
    have HRowA : Hid (RowOf wr (w3.heap.size + 1) 39 2 n (fun j => #[.string (fA j).1, .int .i64 (fA j).2]) k) := hrow
    clear hkeep horig hrow
    by_cases hlt : k < n
    · obtain ⟨b, off, rfl, hc⟩ := HKeep.out.nms (by omega)
      have hck := hc k hlt
      have hblt : b < wr.heap.size := block_lt_of_cell hck
      have hsz := HNS.out k hlt
      have hat := HfA.out k
      obtain ⟨x, hx⟩ : ∃ x, x = nm k := ⟨_, rfl⟩
      rw [← hx] at hck hsz hat
      have hlook : (Instr.lookup 27 (.map (some A)) (.string x) false).run Try.prog wr = .ok (.agg #[.string (fA k).1, .int .i64 (fA k).2]) wr := look_plainA HOrig.out.mA hsz hat 0
      clear hc hx hat
      have hi39 : (Try.prog.info? 39).map (·.size) = some (#[Value.string (fA k).1, Value.int .i64 (fA k).2] : Array Value).size := by simpa using info39s
      have ho39 : (#[Value.string (fA k).1, Value.int .i64 (fA k).2] : Array Value).all (·.oneCell') = true := by simp [Value.oneCell']
      go_wp2_with (with_reducible show wpList _ _ _ (Oper.mk _ (Op.store 39 _ _) _ _ _ _ :: _) _ _; refine wpList_store_elem _ rfl 39 _ _ rfl (w3.heap.size + 1) 2 n k _ rfl rfl HRowA.out hlt (by simp) hi39 ho39 ?_; intro w5 hrow5 hg5)
      go_roundw
      case rel => exact ⟨k + 1, by omega, by go_num, HKeep.out.grown HN.out HI.out hg5 (by omega) (by omega) (by omega) (by omega), ⟨HOrig.out.mA.kept hg5 (by simp; omega), HOrig.out.mL.kept hg5 (by simp; omega)⟩, hrow5⟩
      case measure => simp [intOf]; omega
    · obtain rfl : k = n := by omega
      clear hk hlt
      have hmkL := run_mkL ni hi4
      go_wp2_with fail
      clear hmkL
      obtain ⟨WL, hWL⟩ : ∃ WL, wr.heap.size = WL := ⟨_, rfl⟩
      rw [hWL]
      have hWAL : w3.heap.size + 1 < WL := by rw [← hWL]; exact HRowA.out.lt
      have HRowA1 : Hid (RowOf (wr.alloc (.cells (mkL ni) 52)) (w3.heap.size + 1) 39 2 k (fun j => #[.string (fA j).1, .int .i64 (fA j).2]) k) := HRowA.out.below (bel1 _ _) HRowA.out.lt
      have HRowL0 : Hid (RowOf (wr.alloc (.cells (mkL ni) 52)) WL 52 34 ni (fun j => lc (fL j).1 (fL j).2) 0) := RowOf.start _ (by rw [← hWL]; exact heap_alloc_new wr _) (mkL_size ni)
      have HKeep1 : Hid (Lay w a i k ni nm im ct la CA CL w3.heap.size DA DL (wr.alloc (.cells (mkL ni) 52))) := HKeep.out.below (bel1 _ _)
      have HOrig1 : Hid (LayC A L k ni DA DL (wr.alloc (.cells (mkL ni) 52))) := HOrig.out.below (bel1 _ _)
      clear HKeep HOrig HRowA hWL
      go_loopw [20] (fun t wr => ∃ m : Nat, m ≤ ni ∧ t = .int .i64 m ∧ Lay w a i k ni nm im ct la CA CL w3.heap.size DA DL wr ∧ LayC A L k ni DA DL wr ∧ RowOf wr (w3.heap.size + 1) 39 2 k (fun j => #[.string (fA j).1, .int .i64 (fA j).2]) k ∧ RowOf wr WL 52 34 ni (fun j => lc (fL j).1 (fL j).2) m) (fun t _ => ni - (intOf t).toNat)
      case atStart => exact ⟨0, Nat.zero_le _, rfl, HKeep1.out, HOrig1.out, HRowA1.out, HRowL0.out⟩
      case round =>
        clear HKeep1 HOrig1 HRowA1 HRowL0
        obtain ⟨m, hm, rfl, hkeep, horig, hrowA, hrowL⟩ := hrel
        have HKeep : Hid (Lay w a i k ni nm im ct la CA CL w3.heap.size DA DL wr) := hkeep
        have HOrig : Hid (LayC A L k ni DA DL wr) := horig
        have HRowA : Hid (RowOf wr (w3.heap.size + 1) 39 2 k (fun j => #[.string (fA j).1, .int .i64 (fA j).2]) k) := hrowA
        have HRowL : Hid (RowOf wr WL 52 34 ni (fun j => lc (fL j).1 (fL j).2) m) := hrowL
        clear hkeep horig hrowA hrowL
        by_cases hlt : m < ni
        · obtain ⟨b, off, rfl, hc⟩ := HKeep.out.ids (by omega)
          have hck := hc m hlt
          have hblt : b < wr.heap.size := block_lt_of_cell hck
          have hsz := HIS.out m hlt
          have hat := HfL.out m
          obtain ⟨x, hx⟩ : ∃ x, x = im m := ⟨_, rfl⟩
          rw [← hx] at hck hsz hat
          have hlook : (Instr.lookup 28 (.map (some L)) (.string x) false).run Try.prog wr = .ok (.agg (lc (fL m).1 (fL m).2)) wr := look_plainL HOrig.out.mL hsz hat 0
          clear hc hx hat
          have hi52 : (Try.prog.info? 52).map (·.size) = some (lc (fL m).1 (fL m).2).size := info52
          go_wp2_with (with_reducible show wpList _ _ _ (Oper.mk _ (Op.store 52 _ _) _ _ _ _ :: _) _ _; refine wpList_store_elem _ rfl 52 _ _ rfl WL 34 ni m (fun j => lc (fL j).1 (fL j).2) rfl rfl HRowL.out hlt (lc_size _ _) hi52 (lc_one _ _) ?_; intro w5 hrow5 hg5)
          go_roundw
          case rel => exact ⟨m + 1, by omega, by go_num, HKeep.out.grown HN.out HI.out hg5 (by omega) (by omega) (by omega) (by omega), ⟨HOrig.out.mA.kept hg5 (by simp; omega), HOrig.out.mL.kept hg5 (by simp; omega)⟩, HRowA.out.grown hg5 (by omega), hrow5⟩
          case measure => simp [intOf]; omega
        · obtain rfl : m = ni := by omega
          clear hm hlt
          go_wp2_with fail
          rw [show ((k : Int) + (m : Int)) = ((k + m : Nat) : Int) from by omega]
          refine (absent12 A L k m (k + m) DA DL (by omega) HaA.out HaL.out (by have := HOrig.out.mA.size_le; have := HOrig.out.mL.size_le; omega) wr HOrig.out.mA HOrig.out.mL).mono ?_
          rintro e w5 ⟨h, rfl, hh, hhA, hhL, hb5⟩
          have HKeep5 : Hid (Lay w a i k m nm im ct la CA CL w3.heap.size DA DL w5) := HKeep.out.below hb5
          have HA5 : Hid (∃ D, w5.ownsMap Try.prog 9 valElem A k D) := ⟨_, ownsMap_below HOrig.out.mA hb5 HOrig.out.mA.lt⟩
          have HL5 : Hid (w5.ownsMap Try.prog 9 valElem L m DL) := ownsMap_below HOrig.out.mL hb5 HOrig.out.mL.lt
          have HRowA5 : Hid (RowOf w5 (w3.heap.size + 1) 39 2 k (fun j => #[.string (fA j).1, .int .i64 (fA j).2]) k) := HRowA.out.below hb5 HRowA.out.lt
          have HRowL5 : Hid (RowOf w5 WL 52 34 m (fun j => lc (fL j).1 (fL j).2) m) := HRowL.out.below hb5 HRowL.out.lt
          clear hb5 HKeep HOrig HRowA HRowL
          have hks : (hashes h).size ≤ maxLen := by rw [hashes_size]; unfold maxLen; omega
          go_wp2_with fail
          go_loopw [22] (fun t wr => ∃ q : Nat, q ≤ k ∧ t = .int .i64 q ∧ Lay w a i k m nm im ct la CA CL w3.heap.size DA DL wr ∧ (∃ D, wr.ownsMap Try.prog 9 valElem A k D) ∧ wr.ownsMap Try.prog 9 valElem L m DL ∧ RowOf wr (w3.heap.size + 1) 39 2 k (fun j => #[.string (fA j).1, .int .i64 (fA j).2]) k ∧ RowOf wr WL 52 34 m (fun j => lc (fL j).1 (fL j).2) m) (fun t _ => k - (intOf t).toNat)
          case atStart => exact ⟨0, Nat.zero_le _, rfl, HKeep5.out, HA5.out, HL5.out, HRowA5.out, HRowL5.out⟩
          case round =>
            clear HKeep5 HA5 HL5 HRowA5 HRowL5
            obtain ⟨q, hq, rfl, hkeep, ⟨D, hA⟩, hL, hrowA, hrowL⟩ := hrel
            have HKeep : Hid (Lay w a i k m nm im ct la CA CL w3.heap.size DA DL wr) := hkeep
            have HA : Hid (wr.ownsMap Try.prog 9 valElem A k D) := hA
            have HL : Hid (wr.ownsMap Try.prog 9 valElem L m DL) := hL
            have HRowA : Hid (RowOf wr (w3.heap.size + 1) 39 2 k (fun j => #[.string (fA j).1, .int .i64 (fA j).2]) k) := hrowA
            have HRowL : Hid (RowOf wr WL 52 34 m (fun j => lc (fL j).1 (fL j).2) m) := hrowL
            clear hkeep hA hL hrowA hrowL
            by_cases hlt : q < k
            · obtain ⟨b, off, rfl, hc⟩ := HKeep.out.nms (by omega)
              have hck := hc q hlt
              have hblt : b < wr.heap.size := block_lt_of_cell hck
              have hsz := HNS.out q hlt
              obtain ⟨x, hx⟩ : ∃ x, x = nm q := ⟨_, rfl⟩
              rw [← hx] at hck hsz
              clear hc hx
              go_wp2_with (at_delete; refine wpList_delete_own _ rfl _ _ 27 9 rfl 39 law9 Try.underlying27 _ A k D rfl HA.out _ _ rfl (keyOf9 hsz) ?_; intro w6 hown6 ht6)
              go_roundw
              case rel => exact ⟨q + 1, by omega, by go_num, HKeep.out.grown HN.out HI.out ht6.grown (by omega) (by omega) (by omega) (by omega), ⟨_, hown6⟩, HL.out.kept ht6.grown (by simp; omega), HRowA.out.grown ht6.grown (by omega), HRowL.out.grown ht6.grown (by omega)⟩
              case measure => simp [intOf]; omega
            · obtain rfl : q = k := by omega
              clear hq hlt
              go_wp2_with fail
              have HL' : Hid (∃ D, wr.ownsMap Try.prog 9 valElem L (m + 0) D) := ⟨_, HL.out⟩
              have HA' : Hid (∃ D, wr.ownsMap Try.prog 9 valElem A q D) := ⟨_, HA.out⟩
              clear HL HA
              go_loopw [23] (fun t wr => ∃ r : Nat, r ≤ m ∧ t = .int .i64 r ∧ Lay w a i q m nm im ct la CA CL w3.heap.size DA DL wr ∧ (∃ D, wr.ownsMap Try.prog 9 valElem A q D) ∧ (∃ D, wr.ownsMap Try.prog 9 valElem L (m + r) D) ∧ RowOf wr (w3.heap.size + 1) 39 2 q (fun j => #[.string (fA j).1, .int .i64 (fA j).2]) q ∧ RowOf wr WL 52 34 m (fun j => lc (fL j).1 (fL j).2) m) (fun t _ => m - (intOf t).toNat)
              case atStart => exact ⟨0, Nat.zero_le _, rfl, HKeep.out, HA'.out, HL'.out, HRowA.out, HRowL.out⟩
              case round =>
                clear HKeep HA' HL' HRowA HRowL
                obtain ⟨r, hr, rfl, hkeep, ⟨D2, hA⟩, ⟨E, hL⟩, hrowA, hrowL⟩ := hrel
                have HKeep : Hid (Lay w a i q m nm im ct la CA CL w3.heap.size DA DL wr) := hkeep
                have HA : Hid (wr.ownsMap Try.prog 9 valElem A q D2) := hA
                have HL : Hid (wr.ownsMap Try.prog 9 valElem L (m + r) E) := hL
                have HRowA : Hid (RowOf wr (w3.heap.size + 1) 39 2 q (fun j => #[.string (fA j).1, .int .i64 (fA j).2]) q) := hrowA
                have HRowL : Hid (RowOf wr WL 52 34 m (fun j => lc (fL j).1 (fL j).2) m) := hrowL
                clear hkeep hA hL hrowA hrowL
                by_cases hlt : r < m
                · obtain ⟨b, off, rfl, hc⟩ := HI.out (by omega)
                  have hck := hc r hlt
                  have hblt : b < w.heap.size := block_lt_of_cell hck
                  rw [← HKeep.out.bel.cell (p := ⟨b, off + r, none⟩) hblt] at hck
                  have hsz := HIS.out r hlt
                  obtain ⟨x, hx⟩ : ∃ x, x = im r := ⟨_, rfl⟩
                  rw [← hx] at hck hsz
                  clear hc hx
                  obtain ⟨w6, hrun, hown6, hg6⟩ := HL.out.drew.update law9 Try.underlying28 (by unfold maxLen; omega) (keyOf9 hsz) (val := loanV x defaultedS) (d := .held (loanV x defaultedS)) (ps := []) rfl
                  have hrun' : (Instr.mapUpdate 28 (.map (some L)) (.string x) (.agg #[.string x, .string ⟨#[]⟩, .int .i64 0, .int .i64 0, .int .i64 0, .pointer none, .pointer none, .pointer none, .int .i64 0, .int .i64 0, .int .i64 0, .int .i64 0, .pointer none, .pointer none, .pointer none, .string ⟨#[100, 101, 102, 97, 117, 108, 116, 101, 100]⟩, .int .i64 0, .pointer none, .pointer none, .pointer none, .pointer none, .int .i64 0, .pointer none, .pointer none, .pointer none, .pointer none, .pointer none, .int .i64 0, .int .i64 0, .pointer none, .pointer none, .pointer none, .pointer none, .pointer none])).run Try.prog wr.drew = .ok () w6 := hrun
                  have hck1 : w6.cell? ⟨b, off + r, none⟩ = some (.string x) := hg6.cell (a := ⟨b, off + r, none⟩) hck (by simp; omega)
                  have HK6 : Hid (Lay w a (some ⟨b, off, none⟩) q m nm im ct la CA CL w3.heap.size DA DL w6) := (HKeep.out.below ((Below.refl _ _).drew)).grown HN.out HI.out hg6 (by omega) (by omega) (by omega) (by omega)
                  have HA6 : Hid (w6.ownsMap Try.prog 9 valElem A q D2) := HA.out.drew.kept hg6 (by simp; omega)
                  have HL6 : Hid (w6.ownsMap Try.prog 9 valElem L (m + (r + 1)) (E.put (key x) (.held (loanV x defaultedS)))) := hown6
                  have HRA6 : Hid (RowOf w6 (w3.heap.size + 1) 39 2 q (fun j => #[.string (fA j).1, .int .i64 (fA j).2]) q) := (HRowA.out.below ((Below.refl _ _).drew) HRowA.out.lt).grown hg6 (by omega)
                  have HRL6 : Hid (RowOf w6 WL 52 34 m (fun j => lc (fL j).1 (fL j).2) m) := (HRowL.out.below ((Below.refl _ _).drew) HRowL.out.lt).grown hg6 (by omega)
                  clear hrun hown6 hg6
                  go_wp2_with fail
                  go_region_held3 (fun w' => w'.cell? ⟨b, off + r, none⟩ = some (.string x)) (simp [*]) (fail)
                  go_wp2
                  go_roundw
                  case rel => exact ⟨r + 1, by omega, by go_num, HK6.out, ⟨_, HA6.out⟩, ⟨_, HL6.out⟩, HRA6.out, HRL6.out⟩
                  case measure => simp [intOf]; omega
                · obtain rfl : r = m := by omega
                  clear hr hlt
                  go_wp2_with (first
                    | (at_mapUpdate; refine wpList_mapUpdate_own _ rfl _ _ _ 27 rfl 9 39 law9 Try.underlying27 valElem A q D2 rfl HA.out (by unfold maxLen; omega) _ _ _ rfl rfl (keyOf9 hks) (.held (assetV (hashes h) 1)) [] rfl ?_; intro w6 hown6 hg6; have HK6 : Hid (Lay w a i q r nm im ct la CA CL w3.heap.size DA DL w6) := HKeep.out.grown HN.out HI.out hg6 (by omega) (by omega) (by omega) (by omega); have HL6 : Hid (w6.ownsMap Try.prog 9 valElem L (r + r) E) := HL.out.kept hg6 (by simp; omega); have HRA6 : Hid (RowOf w6 (w3.heap.size + 1) 39 2 q (fun j => #[.string (fA j).1, .int .i64 (fA j).2]) q) := HRowA.out.grown hg6 (by omega); have HRL6 : Hid (RowOf w6 WL 52 34 r (fun j => lc (fL j).1 (fL j).2) r) := HRowL.out.grown hg6 (by omega); clear hown6 hg6)
                    | (at_mapUpdate; refine wpList_mapUpdate_own _ rfl _ _ _ 28 rfl 9 52 law9 Try.underlying28 valElem L (r + r) E rfl HL6.out (by unfold maxLen; omega) _ (loanV (hashes h) openS) _ rfl rfl (keyOf9 hks) (.held (loanV (hashes h) openS)) [] rfl ?_; intro w7 hown7 hg7; have HK7 : Hid (Lay w a i q r nm im ct la CA CL w3.heap.size DA DL w7) := HK6.out.grown HN.out HI.out hg7 (by omega) (by omega) (by omega) (by omega); have HRA7 : Hid (RowOf w7 (w3.heap.size + 1) 39 2 q (fun j => #[.string (fA j).1, .int .i64 (fA j).2]) q) := HRA6.out.grown hg7 (by omega); have HRL7 : Hid (RowOf w7 WL 52 34 r (fun j => lc (fL j).1 (fL j).2) r) := HRL6.out.grown hg7 (by omega); clear hown7 hg7))
                  refine (fields11' ct la CA CL w3.heap.size _ HK7.out.st).mono ?_
                  rintro e w8 ⟨rfl, hb8⟩
                  have HK8 : Hid (Lay w a i q r nm im ct la CA CL w3.heap.size DA DL w8) := HK7.out.below hb8
                  have HRA8 : Hid (RowOf w8 (w3.heap.size + 1) 39 2 q (fun j => #[.string (fA j).1, .int .i64 (fA j).2]) q) := HRA7.out.below hb8 HRA7.out.lt
                  have HRL8 : Hid (RowOf w8 WL 52 34 r (fun j => lc (fL j).1 (fL j).2) r) := HRL7.out.below hb8 HRL7.out.lt
                  clear hb8 HK6 HL6 HRA6 HRL6 HK7 HRA7 HRL7 HKeep HA HL HRowA HRowL
                  have hl1 : ∀ ty, (Builtin.len_ #[27] ty #[.map (some CA)]).run Try.prog w8 = .ok (.int .i64 (Maps.size DA)) w8 := fun ty => HK8.out.mA.len Try.underlying27 ty
                  have hl2 : ∀ ty, (Builtin.len_ #[28] ty #[.map (some CL)]).run Try.prog w8 = .ok (.int .i64 (Maps.size DL)) w8 := fun ty => HK8.out.mL.len Try.underlying28 ty
                  have hz := zero52
                  go_wp2_with (first
                    | (at_lookup; refine wpList_lookA _ rfl _ _ rfl CA q DA HaA.out rfl HK8.out.mA (hashes h) rfl hks ?_; intro t y hty; clear hty)
                    | (at_lookup; refine wpList_lookL _ rfl _ _ rfl CL r DL HaL.out rfl (HK8.out.mL.alloc _) (hashes h) rfl hks ?_; intro t y hty; clear hty)
                    | (with_reducible show wpList _ _ _ (Oper.mk _ (Op.store 52 _ _) _ _ _ _ :: _) _ _; refine wpList_storeL _ rfl _ _ rfl _ _ _ _ _ ?_ rfl rfl ?_; (simp)))
                  clear hl1 hl2
                  have HB9 : Hid (∀ o1 o2 : Obj, Below w8.heap.size w8 ((w8.alloc o1).alloc o2)) := fun o1 o2 => (bel1 _ _).alloc (by simp) _
                  go_loopw [32] (fun t wr => ∃ u : Nat, u ≤ q ∧ t = .int .i64 u ∧ Lay w a i q r nm im ct la CA CL w3.heap.size DA DL wr ∧ RowOf wr (w3.heap.size + 1) 39 2 q (fun j => #[.string (fA j).1, .int .i64 (fA j).2]) q ∧ RowOf wr WL 52 34 r (fun j => lc (fL j).1 (fL j).2) r) (fun t _ => q - (intOf t).toNat)
                  case atStart => exact ⟨0, Nat.zero_le _, rfl, HK8.out.below (HB9.out _ _), HRA8.out.below (HB9.out _ _) HRA8.out.lt, HRL8.out.below (HB9.out _ _) HRL8.out.lt⟩
                  case round =>
                    clear HB9 HK8 HRA8 HRL8 hz
                    obtain ⟨u, hu, rfl, hkeep, hrowA, hrowL⟩ := hrel
                    have HKeep : Hid (Lay w a i q r nm im ct la CA CL w3.heap.size DA DL wr) := hkeep
                    have HRowA : Hid (RowOf wr (w3.heap.size + 1) 39 2 q (fun j => #[.string (fA j).1, .int .i64 (fA j).2]) q) := hrowA
                    have HRowL : Hid (RowOf wr WL 52 34 r (fun j => lc (fL j).1 (fL j).2) r) := hrowL
                    clear hkeep hrowA hrowL
                    by_cases hlt : u < q
                    · obtain ⟨b, off, rfl, hc⟩ := HKeep.out.nms (by omega)
                      have hck := hc u hlt
                      have hblt : b < wr.heap.size := block_lt_of_cell hck
                      have hsz := HNS.out u hlt
                      have hhas := dA_has nm de nd q u hlt
                      rw [← HDA.out] at hhas
                      have hat := HfA.out u
                      obtain ⟨x, hx⟩ : ∃ x, x = nm u := ⟨_, rfl⟩
                      rw [← hx] at hck hsz hhas hat
                      have Hat : Hid (DA.atKey (key x) (.held zA) = .held (assetV (fA u).1 (fA u).2)) := hat
                      clear hc hx hat
                      have hw0 : wr.cell? ⟨w3.heap.size + 1, u * 2, none⟩ = some (.string (fA u).1) := HRowA.out.cell (j := u) (r := 0) hlt (by omega)
                      have hw1 : wr.cell? ⟨w3.heap.size + 1, u * 2 + 1, none⟩ = some (.int .i64 (fA u).2) := HRowA.out.cell (j := u) (r := 1) hlt (by omega)
                      have hwl : w3.heap.size + 1 < wr.heap.size := HRowA.out.lt
                      have hneq := neq39 (fA u).1 (fA u).2
                      go_wp2_with (at_lookup; refine wpList_lookA' _ rfl _ _ rfl CA q DA rfl HKeep.out.mA x rfl hsz (fA u).1 (fA u).2 Hat.out ?_)
                      go_quiet (fail)
                      go_wp2
                      go_roundw
                      case rel => exact ⟨u + 1, by omega, by go_num, HKeep.out.below (below_drewN (bel1 _ _) _), HRowA.out.below (below_drewN (bel1 _ _) _) HRowA.out.lt, HRowL.out.below (below_drewN (bel1 _ _) _) HRowL.out.lt⟩
                      case measure => simp [intOf]; omega
                    · obtain rfl : u = q := by omega
                      clear hu hlt
                      go_wp2_with fail
                      go_loopw [35] (fun t wr => ∃ v : Nat, v ≤ r ∧ t = .int .i64 v ∧ Lay w a i u r nm im ct la CA CL w3.heap.size DA DL wr ∧ RowOf wr WL 52 34 r (fun j => lc (fL j).1 (fL j).2) r) (fun t _ => r - (intOf t).toNat)
                      case atStart => exact ⟨0, Nat.zero_le _, rfl, HKeep.out, HRowL.out⟩
                      case round =>
                        clear HKeep HRowA HRowL
                        obtain ⟨v, hv, rfl, hkeep, hrowL⟩ := hrel
                        have HKeep : Hid (Lay w a i u r nm im ct la CA CL w3.heap.size DA DL wr) := hkeep
                        have HRowL : Hid (RowOf wr WL 52 34 r (fun j => lc (fL j).1 (fL j).2) r) := hrowL
                        clear hkeep hrowL
                        by_cases hlt : v < r
                        · obtain ⟨b, off, rfl, hc⟩ := HKeep.out.ids (by omega)
                          have hck := hc v hlt
                          have hblt : b < wr.heap.size := block_lt_of_cell hck
                          have hsz := HIS.out v hlt
                          have hhas := dL_has openS im r v hlt
                          rw [← HDL.out] at hhas
                          have hat := HfL.out v
                          obtain ⟨x, hx⟩ : ∃ x, x = im v := ⟨_, rfl⟩
                          rw [← hx] at hck hsz hhas hat
                          have Hat : Hid (DL.atKey (key x) (.held zL) = .held (loanV (fL v).1 (fL v).2)) := hat
                          clear hc hx hat
                          have hz := zero52
                          have hrg : ∀ o : Obj, ((wr.alloc o).drew).rangeAt WL (v * 34) (lc (fL v).1 (fL v).2).toList := fun o => (HRowL.out.below ((bel1 wr o).drew) HRowL.out.lt).range hlt (lc_size _ _)
                          have HRg : Hid (∀ o : Obj, ((wr.alloc o).drew).rangeAt WL (v * 34) (lc (fL v).1 (fL v).2).toList) := hrg
                          clear hrg
                          have hneq := neq52 (fL v).1 (fL v).2
                          have hi52l : (Try.prog.info? 52).map (·.size) = some (lc (fL v).1 (fL v).2).toList.length := info52
                          have hv0 : (0 : Int) ≤ (v : Int) := by omega
                          have hv1 : (v : Int) < (r : Int) := by omega
                          go_wp2_with (first
                            | (at_lookup; refine wpList_lookL' _ rfl _ _ rfl CL r DL rfl HKeep.out.mL x rfl hsz (fL v).1 (fL v).2 Hat.out ?_)
                            | (with_reducible show wpList _ _ _ (Oper.mk _ (Op.store 52 _ _) _ _ _ _ :: _) _ _; refine wpList_storeL _ rfl _ _ rfl _ _ _ _ _ ?_ rfl rfl ?_; (simp)))
                          refine wp_region_held_drew (S := fun W' => W'.heap[wr.heap.size]? = some (.cells (lc (fL v).1 (fL v).2) 52 (0, 0)) ∧ W'.rangeAt WL (v * 34) (lc (fL v).1 (fL v).2).toList) (by kernel_rfl) ⟨heap_alloc_new wr _, HRg.out _⟩ (fun hHeld => ?_)
                          refine wpAnyH_take (i := 0) (oi := ⟨some 233, Op.move (.tmp 37), 4, _, _, none⟩) (v := .bool true) rfl (by kernel_rfl) (by kernel_rfl) (by kernel_rfl) (fun _ _ _ h => h) (Or.inl ⟨by rfl, fun _ _ => by rfl⟩) hHeld ?_
                          simp only [Act.put, List.setIfInBounds_toArray, List.set_cons_zero, List.set_cons_succ]
                          refine wpAnyH_take (i := 1) (oi := ⟨some 234, Op.unOp UnOp.not 4 (.tmp 233), 4, _, _, none⟩) (v := .bool false) rfl (by kernel_rfl) (by kernel_rfl) (by kernel_rfl) (fun _ _ _ h => h) (Or.inl ⟨by rfl, fun _ hSw => by (try dsimp only at hSw); go_simp⟩) hHeld ?_
                          simp only [Act.put, List.setIfInBounds_toArray, List.set_cons_zero, List.set_cons_succ]
                          refine wpAnyH_take (i := 2) (oi := ⟨some 235, Op.move (.tmp 234), 4, _, _, none⟩) (v := .bool false) rfl (by kernel_rfl) (by kernel_rfl) (by kernel_rfl) (fun _ _ _ h => h) (Or.inl ⟨by rfl, fun _ _ => by rfl⟩) hHeld ?_
                          simp only [Act.put, List.setIfInBounds_toArray, List.set_cons_zero, List.set_cons_succ]
                          refine wpAnyH_take (i := 3) (oi := ⟨some 236, Op.load 52 (.tmp 36), 52, _, _, some (2, false)⟩) rfl (by kernel_rfl) (by kernel_rfl) (by kernel_rfl) (fun _ _ _ h => h) (yieldsIf_load_row (by rfl) 52 _ rfl wr.heap.size rfl 52 (lc (fL v).1 (fL v).2) (0, 0) _ (fun _ h => h.1) Try.underlying52 rfl info52) hHeld ?_
                          simp only [Act.put, List.setIfInBounds_toArray, List.set_cons_zero, List.set_cons_succ]
                          refine wpAnyH_take (i := 4) (oi := ⟨some 237, Op.move (.tmp 19), 56, _, _, some (2, false)⟩) (v := .slice (some ⟨WL, 0, none⟩) r r) rfl (by kernel_rfl) (by kernel_rfl) (by kernel_rfl) (fun _ _ _ h => h) (Or.inl ⟨by rfl, fun _ _ => by rfl⟩) hHeld ?_
                          simp only [Act.put, List.setIfInBounds_toArray, List.set_cons_zero, List.set_cons_succ]
                          refine wpAnyH_take (i := 5) (oi := ⟨some 238, Op.move (.tmp 35), 3, _, _, some (2, false)⟩) (v := .int .i64 v) rfl (by kernel_rfl) (by kernel_rfl) (by kernel_rfl) (fun _ _ _ h => h) (Or.inl ⟨by rfl, fun _ _ => by rfl⟩) hHeld ?_
                          simp only [Act.put, List.setIfInBounds_toArray, List.set_cons_zero, List.set_cons_succ]
                          refine wpAnyH_take (i := 6) (oi := ⟨some 239, Op.indexAddr 56 (.tmp 237) (.tmp 238), _, _, _, some (2, false)⟩) (v := .pointer (some ⟨WL, v * 34, none⟩)) rfl (by kernel_rfl) (by kernel_rfl) (by kernel_rfl) (fun _ _ _ h => h) (Or.inl ⟨by rfl, fun _ hSw => by (try dsimp only at hSw); go_simp⟩) hHeld ?_
                          simp only [Act.put, List.setIfInBounds_toArray, List.set_cons_zero, List.set_cons_succ]
                          refine wpAnyH_take (i := 7) (oi := ⟨some 240, Op.load 52 (.tmp 239), 52, _, _, some (2, false)⟩) rfl (by kernel_rfl) (by kernel_rfl) (by kernel_rfl) (fun _ _ _ h => h) (yieldsIf_load_mid (by rfl) 52 _ rfl WL (v * 34) rfl (lc (fL v).1 (fL v).2).toList _ (fun _ h => h.2) Try.underlying52 rfl hi52l) hHeld ?_
                          simp only [Act.put, List.setIfInBounds_toArray, List.set_cons_zero, List.set_cons_succ]
                          rw [Array.toArray_toList]
                          refine wpAnyH_take (i := 8) (oi := ⟨some 241, Op.binOp BinOp.neq 52 (.tmp 236) (.tmp 240) 52, 4, _, _, some (2, false)⟩) (v := .bool false) rfl (by kernel_rfl) (by kernel_rfl) (by kernel_rfl) (fun _ _ _ h => h) (Or.inl ⟨by rfl, fun _ hSw => by (try dsimp only at hSw); go_simp⟩) hHeld ?_
                          simp only [Act.put, List.setIfInBounds_toArray, List.set_cons_zero, List.set_cons_succ]
                          refine wpAnyH_take (i := 9) (oi := ⟨some 242, Op.pick (.tmp 235) (.const (.bool true)) (.tmp 241), 4, _, _, none⟩) (v := .bool false) rfl (by kernel_rfl) (by kernel_rfl) (by kernel_rfl) (fun _ _ _ h => h) (Or.inl ⟨by rfl, fun _ hSw => by (try dsimp only at hSw); go_simp⟩) hHeld ?_
                          simp only [Act.put, List.setIfInBounds_toArray, List.set_cons_zero, List.set_cons_succ]
                          refine wpAnyH_done (by kernel_rfl) ?_ _
                          go_wp2
                          go_roundw
                          case rel => exact ⟨v + 1, by omega, by go_num, HKeep.out.below ((bel1 _ _).drew), HRowL.out.below ((bel1 _ _).drew) HRowL.out.lt⟩
                          case measure => simp [intOf]; omega
                        · go_wp2
                          go_ret
                          exact ⟨rfl, HKeep.out.bel⟩
end Go.Proofs.Qxb6612305a
