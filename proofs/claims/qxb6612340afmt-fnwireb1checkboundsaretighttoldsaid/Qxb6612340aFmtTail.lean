import Derived.Test.Qxb6612340aFmtBlk
namespace Go.Proofs.Qxb6612340aFmt
open Go.RowKit Go.Extern.Stop Go.Stop Go.Extern

theorem fill26b (n : Nat) (hn : n ≤ 1000000) (w : World) :
    Calls Tryf.prog 26 #[.int .i64 n] w fun e w' => (∃ v : Sl, e = .returned (.slice v.a v.l v.c) ∧ v.l = n) ∧ Below w.heap.size w w' := by
  refine (fill26 n hn w).mono ?_
  rintro e w' ⟨rfl, rfl⟩
  exact ⟨⟨⟨_, _, _⟩, rfl, rfl⟩, (Below.refl _ _).alloc (Nat.le_refl _) _⟩
theorem cut22_size (s : ByteArray) (n : Nat) (w : World) :
    Calls Tryf.prog 22 #[.string s, .int .i64 n] w fun e w' => (∃ s' : ByteArray, e = .returned (.string s') ∧ s'.size ≤ n) ∧ w' = w := by
  refine (cut22 s n w).mono ?_
  rintro e w' ⟨rfl, rfl⟩
  refine ⟨⟨_, rfl, ?_⟩, rfl⟩
  by_cases h : n < s.size
  · rw [if_pos h]; simp; omega
  · rw [if_neg h]; omega
theorem cut22_full (s : ByteArray) (n : Nat) (hn : n ≤ s.size) (w : World) :
    Calls Tryf.prog 22 #[.string s, .int .i64 n] w fun e w' => (∃ s' : ByteArray, e = .returned (.string s') ∧ s'.size = n) ∧ w' = w := by
  refine (cut22 s n w).mono ?_
  rintro e w' ⟨rfl, rfl⟩
  refine ⟨⟨_, rfl, ?_⟩, rfl⟩
  by_cases h : n < s.size
  · rw [if_pos h]; simp; omega
  · rw [if_neg h]; omega
theorem extract_append (p y : ByteArray) : (p ++ y).extract 0 p.size = p := by
  apply ByteArray.ext
  simp [ByteArray.data_extract]
theorem pfx_append (p y : ByteArray) : pfx (p ++ y) p = true := by
  unfold pfx
  rw [extract_append]
  simp
theorem pfx_cut (p y : ByteArray) (n : Nat) (hp : p.size ≤ n) (h : n ≤ (p ++ y).size) : pfx ((p ++ y).extract 0 n) p = true := by
  have e : ((p ++ y).extract 0 n).extract 0 p.size = p := by
    rw [ByteArray.extract_extract]
    have : min (0 + p.size) n = p.size := by omega
    rw [this, Nat.add_zero, extract_append]
  unfold pfx
  rw [e]
  have hs : ((p ++ y).extract 0 n).size = n := by simp at h ⊢; omega
  simp [hs, hp]
theorem cut22_pfx (p y : ByteArray) (n : Nat) (hp : p.size ≤ n) (w : World) :
    Calls Tryf.prog 22 #[.string (p ++ y), .int .i64 n] w fun e w' => (∃ s' : ByteArray, e = .returned (.string s') ∧ s'.size ≤ n ∧ pfx s' p = true) ∧ w' = w := by
  refine (cut22 (p ++ y) n w).mono ?_
  rintro e w' ⟨rfl, rfl⟩
  refine ⟨⟨_, rfl, ?_, ?_⟩, rfl⟩
  · by_cases h : n < (p ++ y).size
    · rw [if_pos h]; simp at h ⊢; omega
    · rw [if_neg h]; omega
  · by_cases h : n < (p ++ y).size
    · rw [if_pos h]; exact pfx_cut p y n hp (by omega)
    · rw [if_neg h]; exact pfx_append p y

/-- what function 7 is to leave -/
abbrev Post (w0 : World) : Exit → Act → World → Prop := bodyPost Tryf.prog Tryf.f7 fun e w' => e = .returned (.bool true) ∧ Below w0.heap.size w0 w'

theorem results7 : Tryf.f7.results = #[.tmp 2] := by rfl

variable {F : Interp} {n : Nat → Int} {b : Nat → Bool} {w0 w : World} {p g x : Nat} {r G X : Req} {a : Act} {Q : Exit → Act → World → Prop} {K : Act → World → Prop}

theorem ite_yes {c : Bool} {A B : Prop} (hc : c = true) (h : A) : if c = true then A else B := by rw [if_pos hc]; exact h
theorem slash : (⟨#[47]⟩ : ByteArray).size = 1 := rfl
theorem bsize_append (a b : ByteArray) : (a ++ b).size = a.size + b.size := by simp
theorem oper_setSt {op : Oper} (x y : Operand) (ho : op.op = .store 9 x y) (g : Nat) (hx : a.eval x = .pointer (some ⟨g, 43, none⟩)) (n : Nat → Int) (b : Nat → Bool) (r : Req) (v : ByteArray) (hy : a.eval y = .string v)
    (hg : w.heap[g]? = some (.cells (lay n b r) 38 (0, 0))) (h : ∀ w', Moved g 38 (lay n b (r.setSt v)) w w' → K (a.put op.dst undef) w') : op.wp Tryf.prog a w K Q := by
  have hrun := run_storeCells_at (P := Tryf.prog) g 43 38 (#[.string v] : Array Value).toList 0 (lay n b r) w hg (by rw [lay_size]; simp) (by simp [Value.oneCell'])
  have hlay : (List.take 43 (lay n b r).toList ++ [Value.string v] ++ List.drop (43 + [Value.string v].length) (lay n b r).toList).toArray = lay n b (r.setSt v) := lay_setSt n b r v
  simp only [Nat.add_zero] at hrun
  rw [hlay] at hrun
  have hst : (storeVar 9 ⟨g, 43, none⟩ (.string v)).run Tryf.prog w = .ok () (w.setRow g (lay n b (r.setSt v))) := by
    have hi := inf9
    cases hq : Tryf.prog.info? 9 with
    | none => simp [hq] at hi
    | some i =>
      have hs' : 1 = i.size := by simp [hq] at hi; omega
      simp only [storeVar, sizeOf, typeInfo, Sem.run_bind]
      simp [hq, ← hs', Value.cells, hrun]
  unfold Oper.wp execOp
  simp only [ho, hx, hy, Instr.storeAt, Instr.sureAddr, Sem.run_bind, Sem.run_pure, Result.andThen_ok, hst]
  exact h _ ⟨setRow_heap w g _ _ 38 (0, 0) hg, fun k hk => setRow_other w g k _ hk, by simp, rfl, rfl, rfl⟩

/-- the world of a region that draws: the three requests lie there, x with whatever it holds -/
def Held (F : Interp) (n : Nat → Int) (b : Nat → Bool) (w0 : World) (g x : Nat) (r G : Req) (w : World) : Prop := ∃ X, Mem3 F n b w0 g x r G X w
theorem Mem3.drew (h : Mem3 F n b w0 g x r G X w) : Mem3 F n b w0 g x r G X w.drew :=
  ⟨⟨h.mem.bel.drew, h.mem.hf, h.mem.hg, h.mem.ans, h.mem.lo, h.mem.hi⟩, h.hx, h.lo, h.hi⟩

theorem map_one {x : Operand} {v : Value} (h : a.eval x = v) : (#[x] : Array Operand).map a.eval = #[v] := by simp [h]
theorem map_two {x y : Operand} {v u : Value} (h : a.eval x = v) (h' : a.eval y = u) : (#[x, y] : Array Operand).map a.eval = #[v, u] := by simp [h, h']

section
variable {md : Region.Mode} {ops : Array Oper} {S : World → Prop} {fuel i s ty : Nat} {listed : Array Bool} {op : Op} {pos : String} {e : Array Edge}
theorem takeF {v : Value} (hi : ops[i]? = some ⟨some s, op, ty, pos, e, none⟩) (hs : Region.noSelect ops = true) (hf : Region.free md ops listed i = true) (hr : (Region.ready md ops listed).contains i = true)
    (hQ : ∀ c a w, Q (.panic c) (a.put (some s) v) w → Q (.panic c) a w) (hg : ∀ w, S w → Gives ⟨some s, op, ty, pos, e, none⟩ v a w) (hS : S w) (hfr : Fr p g x a) (hsl : s < 189 ∧ 3 ≠ s ∧ p ≠ s)
    (h : ∀ a', Fr p g x a' → a'.eval (.tmp s) = v → (∀ t, t ≠ s → a'.eval (.tmp t) = a.eval (.tmp t)) → wpAnyH Tryf.prog md ops Q S fuel (listed.setIfInBounds i true) a' w) : wpAnyH Tryf.prog md ops Q S (fuel + 1) listed a w :=
  wpAnyH_take hi hs hf hr hQ (Or.inl ⟨rfl, hg⟩) hS (h _ (hfr.put _ hsl.2.1 hsl.2.2) (hfr.same _ hsl.1) fun _ ht => eval_put_ne _ ht)
theorem readyCall {R : Ending → World → Prop} {f : FuncId} {xs : Array Operand} {ts : Array TypeId} {vs : Array Value} (hr : Region.ready md ops listed = [i]) (hi : ops[i]? = some ⟨some s, .call ⟨.value (.func f), xs, ts⟩, ty, pos, e, none⟩)
    (hxs : xs.map a.eval = vs) (hgo : isGo f = true) (hc : Calls Tryf.prog f vs w R) (hfr : Fr p g x a) (hsl : s < 189 ∧ 3 ≠ s ∧ p ≠ s)
    (h : ∀ e w', R e w' → ∃ v, e = .returned v ∧ S w' ∧ ∀ a', Fr p g x a' → a'.eval (.tmp s) = v → (∀ t, t ≠ s → a'.eval (.tmp t) = a.eval (.tmp t)) → wpAnyH Tryf.prog md ops Q S fuel (listed.setIfInBounds i true) a' w') : wpAnyH Tryf.prog md ops Q S (fuel + 1) listed a w := by
  refine wpAnyH_ready hr (by simp) (AllReadyH.cons hi (fun K hK => ite_yes rfl ?_) AllReadyH.nil)
  refine oper_callF f xs ts rfl vs hxs hgo hc ?_
  intro e w' he
  obtain ⟨v, h1, h2, h3⟩ := h e w' he
  exact ⟨v, h1, hK.out _ _ h2 fun _ => h3 _ (hfr.put _ hsl.2.1 hsl.2.2) (hfr.same _ hsl.1) fun _ ht => eval_put_ne _ ht⟩
theorem readySt {x y : Operand} {v : ByteArray} {g : Nat} (hr : Region.ready md ops listed = [i]) (hi : ops[i]? = some ⟨none, .store 9 x y, ty, pos, e, none⟩) (hx : a.eval x = .pointer (some ⟨g, 43, none⟩)) (hy : a.eval y = .string v)
    (hg : w.heap[g]? = some (.cells (lay n b r) 38 (0, 0))) (h : ∀ w', Moved g 38 (lay n b (r.setSt v)) w w' → S w' ∧ wpAnyH Tryf.prog md ops Q S fuel (listed.setIfInBounds i true) a w') : wpAnyH Tryf.prog md ops Q S (fuel + 1) listed a w := by
  refine wpAnyH_ready hr (by simp) (AllReadyH.cons hi (fun K hK => ite_yes rfl ?_) AllReadyH.nil)
  refine oper_setSt x y rfl g hx n b r v hy hg ?_
  intro w' hMv
  exact hK.out _ _ (h w' hMv).1 fun _ => (h w' hMv).2
end

theorem set_cat {i s1 s2 s3 s4 t1 t2 t3 t4 t5 : Nat} {p1 p2 p3 p4 p5 : String} {e1 e2 e3 e4 e5 : Array Edge} (hG : G.st.size ≤ 255) (h1 : s1 < 189 ∧ 3 ≠ s1 ∧ p ≠ s1) (h2 : s2 < 189 ∧ 3 ≠ s2 ∧ p ≠ s2) (h3 : s3 < 189 ∧ 3 ≠ s3 ∧ p ≠ s3) (h4 : s4 < 189 ∧ 3 ≠ s4 ∧ p ≠ s4) (h34 : s3 ≠ s4)
    (hfr : Fr p g x a) (hx : Mem3 F n b w0 g x r G X w) (hK : ∀ a' w', Fr p g x a' → Mem3 F n b w0 g x r G (X.setPre (G.st ++ ⟨#[47]⟩)) w' → K a' w') :
    (Code.region i #[⟨some s1, .fieldAddr 38 (.tmp 3) 28, t1, p1, e1, none⟩, ⟨some s2, .load 9 (.tmp s1), t2, p2, e2, none⟩, ⟨some s3, .binOp .add 9 (.tmp s2) (.const (.string ⟨#[47]⟩)) 9, t3, p3, e3, none⟩, ⟨some s4, .fieldAddr 38 (.tmp p) 27, t4, p4, e4, none⟩, ⟨none, .store 9 (.tmp s4) (.tmp s3), t5, p5, e5, none⟩] false).wp Tryf.prog (Exit.then K Q) a w := by
  refine wp_region_lit ?_
  refine wpList_gives rfl (gives_field 28 43 _ rfl g hfr.fr.t3 off28 (by decide)) ?_
  have f1 : Fr p g x (a.put (some s1) (.pointer (some ⟨g, 43, none⟩))) := hfr.put _ h1.2.1 h1.2.2
  refine wpList_gives rfl (gives_in 9 _ rfl g 43 (hfr.same _ h1.1) 38 (lay n b G) hx.mem.hg (.string G.st) (lay_43 _ _ _) (by kernel_rfl)) ?_
  have f2 := f1.put (s := s2) (.string G.st) h2.2.1 h2.2.2
  refine wpList_gives rfl (gives_cat _ _ rfl G.st ⟨#[47]⟩ (f1.same _ h2.1) rfl (by rw [slash]; omega)) ?_
  have f3 := f2.put (s := s3) (.string (G.st ++ ⟨#[47]⟩)) h3.2.1 h3.2.2
  refine wpList_gives rfl (gives_field 27 42 _ rfl x f3.tp off27 (by decide)) ?_
  refine lawPre _ rfl _ _ rfl x (f3.same _ h4.1) n b X ((eval_put_ne _ h34).trans (f2.same _ h3.1)) hx.hx ?_
  intro w' hMv
  exact hK _ _ (f3.put _ h4.2.1 h4.2.2) (hx.put hMv)

theorem pre_bad (s : ByteArray) : pfx s (s ++ ⟨#[47]⟩) = true → False := by
  intro h
  unfold pfx at h
  have : (⟨#[47]⟩ : ByteArray).size = 1 := rfl
  simp at h
  omega
theorem tail82 (hfr : Fr 5 g x a) (hx : Mem3 F n b w0 g x r G X w) : (tailOf 82).wp Tryf.prog (Post w0) a w := by
  refine wp_seq (wp_region_lit ?_)
  refine wpList_gives rfl (gives_assign _ rfl (.bool true) rfl) ?_
  refine wp_ret ?_
  refine ⟨hfr.fr.df, .bool true, ?_, rfl, hx.mem.bel⟩
  have e : (a.put (some 2) (.bool true)).tmps.getD 2 undef = .bool true := hfr.same _ (by decide)
  show (results Tryf.f7 (a.put (some 2) (.bool true)).tmps).run Tryf.prog w = _
  generalize (a.put (some 2) (.bool true)).tmps = q at e
  simp only [results, results7]
  simp at e
  simp [e]
theorem tail79 (hOk : Ok G) (hfr : Fr 5 g x a) (hx : Mem3 F n b w0 g x r G X w) : (tailOf 79).wp Tryf.prog (Post w0) a w := by
  refine wp_seq (copy_g (by decide) hfr hx ?_)
  intro a w hfr hx
  refine wp_seq (set_const (lawLim (1001)) off30 (by decide) (by decide) hfr hx ?_)
  intro a w hfr hx
  refine wp_seq (refused (by decide) (by decide) hfr hx (fun h => by have : 0 ≤ G.skew := hOk.skew h; show -1 ≤ G.skew; omega) (fun h => by have : (1001 : Int) ≤ 1000 := h.lim1; omega) ?_)
  intro a w hfr hx
  exact tail82 hfr hx
theorem tail76 (hOk : Ok G) (hfr : Fr 5 g x a) (hx : Mem3 F n b w0 g x r G X w) : (tailOf 76).wp Tryf.prog (Post w0) a w := by
  refine wp_seq (copy_g (by decide) hfr hx ?_)
  intro a w hfr hx
  refine wp_seq (set_const (lawLim (-1)) off30 (by decide) (by decide) hfr hx ?_)
  intro a w hfr hx
  refine wp_seq (refused (by decide) (by decide) hfr hx (fun h => by have : 0 ≤ G.skew := hOk.skew h; show -1 ≤ G.skew; omega) (fun h => by have : (0 : Int) ≤ -1 := h.lim0; omega) ?_)
  intro a w hfr hx
  exact tail79 hOk hfr hx
theorem tail73 (hOk : Ok G) (hfr : Fr 5 g x a) (hx : Mem3 F n b w0 g x r G X w) : (tailOf 73).wp Tryf.prog (Post w0) a w := by
  refine wp_seq (copy_g (by decide) hfr hx ?_)
  intro a w hfr hx
  refine wp_seq (set_cat hOk.st (by decide) (by decide) (by decide) (by decide) (by decide) hfr hx ?_)
  intro a w hfr hx
  refine wp_seq (refused (by decide) (by decide) hfr hx (fun h => by have : 0 ≤ G.skew := hOk.skew h; show -1 ≤ G.skew; omega) (fun h => pre_bad G.st h.pre) ?_)
  intro a w hfr hx
  exact tail76 hOk hfr hx
set_option maxHeartbeats 4000000 in
theorem tail70 (hOk : Ok G) (hp : G.pre.size ≤ 255) (hfr : Fr 5 g x a) (hx : Mem3 F n b w0 g x r G X w) : (tailOf 70).wp Tryf.prog (Post w0) a w := by
  refine wp_seq (copy_g (by decide) hfr hx ?_)
  intro a w hfr hx
  refine wp_seq (wp_region_held_drew (S := Held F n b w0 g x r G) (by kernel_rfl) ⟨_, hx.drew⟩ fun _ => ?_)
  replace hx := hx.drew
  refine takeF (i := 0) rfl (by kernel_rfl) (by kernel_rfl) (by kernel_rfl) (fun _ _ _ h => h) (fun w _ => gives_field 27 42 _ rfl g hfr.fr.t3 off27 (by decide)) ⟨_, hx⟩ hfr (by decide) ?_
  intro a hfr v0 _
  refine takeF (i := 1) rfl (by kernel_rfl) (by kernel_rfl) (by kernel_rfl) (fun _ _ _ h => h) (fun w hw => gives_in 9 _ rfl g 42 v0 38 (lay n b G) hw.choose_spec.mem.hg (.string G.pre) (lay_42 _ _ _) (by kernel_rfl)) ⟨_, hx⟩ hfr (by decide) ?_
  intro a hfr v1 _
  clear v0
  refine readyCall (i := 2) (by kernel_rfl) rfl (map_one rfl) isGo25 (fill25 256 (by decide) _) hfr (by decide) ?_
  rintro e w1 ⟨⟨y0, rfl, hy0⟩, hb⟩
  replace hx := hx.after hb
  refine ⟨_, rfl, ⟨_, hx⟩, ?_⟩
  clear hb
  intro a hfr v2 ho
  rw [← ho 167 (by decide)] at v1
  clear ho
  refine takeF (i := 3) rfl (by kernel_rfl) (by kernel_rfl) (by kernel_rfl) (fun _ _ _ h => h) (fun w _ => gives_cat _ _ rfl G.pre y0 v1 v2 (by omega)) ⟨_, hx⟩ hfr (by decide) ?_
  intro a hfr v3 _
  clear v1 v2
  refine readyCall (i := 4) (by kernel_rfl) rfl (map_two v3 rfl) isGo22 (cut22_full (G.pre ++ y0) 256 (by rw [bsize_append]; omega) _) hfr (by decide) ?_
  rintro e w2 ⟨⟨y, rfl, hy⟩, rfl⟩
  refine ⟨_, rfl, ⟨_, hx⟩, ?_⟩
  intro a hfr v4 _
  refine takeF (i := 5) rfl (by kernel_rfl) (by kernel_rfl) (by kernel_rfl) (fun _ _ _ h => h) (fun w _ => gives_field 28 43 _ rfl x hfr.tp off28 (by decide)) ⟨_, hx⟩ hfr (by decide) ?_
  intro a hfr v5 ho
  rw [← ho 170 (by decide)] at v4
  clear ho v3
  refine readySt (i := 6) (by kernel_rfl) rfl v5 v4 hx.hx ?_
  intro w3 hMv
  replace hx := hx.put hMv
  refine ⟨⟨_, hx⟩, wpAnyH_done (by kernel_rfl) ?_ _⟩
  clear hMv v4 v5
  change Code.wp _ _ _ _ _
  refine wp_seq (refused (by decide) (by decide) hfr hx (fun h => by have : 0 ≤ G.skew := hOk.skew h; show -1 ≤ G.skew; omega) (fun h => by have : y.size ≤ 255 := h.st; omega) ?_)
  intro a w hfr hx
  exact tail73 hOk hfr hx
theorem tail67 (hOk : Ok G) (hp : G.pre.size ≤ 255) (hfr : Fr 5 g x a) (hx : Mem3 F n b w0 g x r G X w) : (tailOf 67).wp Tryf.prog (Post w0) a w := by
  refine wp_seq (copy_g (by decide) hfr hx ?_)
  intro a w hfr hx
  refine wp_seq (set_call (fun v : Sl => Value.slice v.a v.l v.c) (fun v q => q.setVc v) (fun v : Sl => v.l = 8161) lawVc isGo26 (fill26b 8161 (by decide)) off8 (by decide) (by decide) (by decide) (by decide) hfr hx ?_)
  intro a w y hy hfr hx
  refine wp_seq (refused (by decide) (by decide) hfr hx (fun h => by have : 0 ≤ G.skew := hOk.skew h; show -1 ≤ G.skew; omega) (fun h => by have : y.l ≤ 8160 := h.vc; rw [hy] at this; omega) ?_)
  intro a w hfr hx
  exact tail70 hOk hp hfr hx
theorem tail64 (hOk : Ok G) (hp : G.pre.size ≤ 255) (hfr : Fr 5 g x a) (hx : Mem3 F n b w0 g x r G X w) : (tailOf 64).wp Tryf.prog (Post w0) a w := by
  refine wp_seq (copy_g (by decide) hfr hx ?_)
  intro a w hfr hx
  refine wp_seq (set_call (fun v : Sl => Value.slice v.a v.l v.c) (fun v q => q.setPa v) (fun v : Sl => v.l = 256) lawPa isGo26 (fill26b 256 (by decide)) off26 (by decide) (by decide) (by decide) (by decide) hfr hx ?_)
  intro a w y hy hfr hx
  refine wp_seq (refused (by decide) (by decide) hfr hx (fun h => by have : 0 ≤ G.skew := hOk.skew h; show -1 ≤ G.skew; omega) (fun h => by have : y.l ≤ 255 := h.pa; rw [hy] at this; omega) ?_)
  intro a w hfr hx
  exact tail67 hOk hp hfr hx
theorem tail61 (hOk : Ok G) (hp : G.pre.size ≤ 255) (hfr : Fr 5 g x a) (hx : Mem3 F n b w0 g x r G X w) : (tailOf 61).wp Tryf.prog (Post w0) a w := by
  refine wp_seq (copy_g (by decide) hfr hx ?_)
  intro a w hfr hx
  refine wp_seq (set_call (fun v : Sl => Value.slice v.a v.l v.c) (fun v q => q.setVp v) (fun v : Sl => v.l = 256) lawVp isGo26 (fill26b 256 (by decide)) off6 (by decide) (by decide) (by decide) (by decide) hfr hx ?_)
  intro a w y hy hfr hx
  refine wp_seq (refused (by decide) (by decide) hfr hx (fun h => by have : 0 ≤ G.skew := hOk.skew h; show -1 ≤ G.skew; omega) (fun h => by have : y.l ≤ 255 := h.vp; rw [hy] at this; omega) ?_)
  intro a w hfr hx
  exact tail64 hOk hp hfr hx
theorem tail57 (hOk : Ok G) (hp : G.pre.size ≤ 255) (hfr : Fr 5 g x a) (hx : Mem3 F n b w0 g x r G X w) : (tailOf 57).wp Tryf.prog (Post w0) a w := by
  refine wp_seq (copy_g (by decide) hfr hx ?_)
  intro a w hfr hx
  refine wp_seq (set_const (lawClk (true)) off11 (by decide) (by decide) hfr hx ?_)
  intro a w hfr hx
  refine wp_seq (set_const (lawSkew (-1)) off12 (by decide) (by decide) hfr hx ?_)
  intro a w hfr hx
  refine wp_seq (refused (by decide) (by decide) hfr hx (fun _ => Int.le_refl _) (fun h => by have : (0 : Int) ≤ -1 := h.skew rfl; omega) ?_)
  intro a w hfr hx
  exact tail61 hOk hp hfr hx
theorem tail54 (hOk : Ok G) (hp : G.pre.size ≤ 255) (hfr : Fr 5 g x a) (hx : Mem3 F n b w0 g x r G X w) : (tailOf 54).wp Tryf.prog (Post w0) a w := by
  refine wp_seq (copy_g (by decide) hfr hx ?_)
  intro a w hfr hx
  refine wp_seq (set_const (lawDepth (769)) off19 (by decide) (by decide) hfr hx ?_)
  intro a w hfr hx
  refine wp_seq (refused (by decide) (by decide) hfr hx (fun h => by have : 0 ≤ G.skew := hOk.skew h; show -1 ≤ G.skew; omega) (fun h => by have : (769 : Int) ≤ 768 := h.dep1; omega) ?_)
  intro a w hfr hx
  exact tail57 hOk hp hfr hx
theorem tail51 (hOk : Ok G) (hp : G.pre.size ≤ 255) (hfr : Fr 5 g x a) (hx : Mem3 F n b w0 g x r G X w) : (tailOf 51).wp Tryf.prog (Post w0) a w := by
  refine wp_seq (copy_g (by decide) hfr hx ?_)
  intro a w hfr hx
  refine wp_seq (set_const (lawDepth (-1)) off19 (by decide) (by decide) hfr hx ?_)
  intro a w hfr hx
  refine wp_seq (refused (by decide) (by decide) hfr hx (fun h => by have : 0 ≤ G.skew := hOk.skew h; show -1 ≤ G.skew; omega) (fun h => by have : (0 : Int) ≤ -1 := h.dep0; omega) ?_)
  intro a w hfr hx
  exact tail54 hOk hp hfr hx
theorem tail48 (hOk : Ok G) (hp : G.pre.size ≤ 255) (hfr : Fr 5 g x a) (hx : Mem3 F n b w0 g x r G X w) : (tailOf 48).wp Tryf.prog (Post w0) a w := by
  refine wp_seq (copy_g (by decide) hfr hx ?_)
  intro a w hfr hx
  refine wp_seq (set_call (fun v : Sl => Value.slice v.a v.l v.c) (fun v q => q.setHv v) (fun v : Sl => v.l = 49) lawHv isGo26 (fill26b 49 (by decide)) off25 (by decide) (by decide) (by decide) (by decide) hfr hx ?_)
  intro a w y hy hfr hx
  refine wp_seq (refused (by decide) (by decide) hfr hx (fun h => by have : 0 ≤ G.skew := hOk.skew h; show -1 ≤ G.skew; omega) (fun h => by have : y.l ≤ 48 := h.hv; rw [hy] at this; omega) ?_)
  intro a w hfr hx
  exact tail51 hOk hp hfr hx
theorem tail45 (hOk : Ok G) (hp : G.pre.size ≤ 255) (hfr : Fr 5 g x a) (hx : Mem3 F n b w0 g x r G X w) : (tailOf 45).wp Tryf.prog (Post w0) a w := by
  refine wp_seq (copy_g (by decide) hfr hx ?_)
  intro a w hfr hx
  refine wp_seq (set_call (fun v : Sl => Value.slice v.a v.l v.c) (fun v q => q.setSv v) (fun v : Sl => v.l = 49) lawSv isGo26 (fill26b 49 (by decide)) off15 (by decide) (by decide) (by decide) (by decide) hfr hx ?_)
  intro a w y hy hfr hx
  refine wp_seq (refused (by decide) (by decide) hfr hx (fun h => by have : 0 ≤ G.skew := hOk.skew h; show -1 ≤ G.skew; omega) (fun h => by have : y.l ≤ 48 := h.sv; rw [hy] at this; omega) ?_)
  intro a w hfr hx
  exact tail48 hOk hp hfr hx
theorem tail42 (hOk : Ok G) (hp : G.pre.size ≤ 255) (hfr : Fr 5 g x a) (hx : Mem3 F n b w0 g x r G X w) : (tailOf 42).wp Tryf.prog (Post w0) a w := by
  refine wp_seq (copy_g (by decide) hfr hx ?_)
  intro a w hfr hx
  refine wp_seq (set_call (fun v : Sl => Value.slice v.a v.l v.c) (fun v q => q.setVv v) (fun v : Sl => v.l = 49) lawVv isGo26 (fill26b 49 (by decide)) off5 (by decide) (by decide) (by decide) (by decide) hfr hx ?_)
  intro a w y hy hfr hx
  refine wp_seq (refused (by decide) (by decide) hfr hx (fun h => by have : 0 ≤ G.skew := hOk.skew h; show -1 ≤ G.skew; omega) (fun h => by have : y.l ≤ 48 := h.vv; rw [hy] at this; omega) ?_)
  intro a w hfr hx
  exact tail45 hOk hp hfr hx
theorem tail39 (hOk : Ok G) (hp : G.pre.size ≤ 255) (hfr : Fr 5 g x a) (hx : Mem3 F n b w0 g x r G X w) : (tailOf 39).wp Tryf.prog (Post w0) a w := by
  refine wp_seq (copy_g (by decide) hfr hx ?_)
  intro a w hfr hx
  refine wp_seq (set_call Value.string (fun v q => q.setObj v) (fun s : ByteArray => s.size = 256) lawObj isGo25 (fill25 256 (by decide)) off2 (by decide) (by decide) (by decide) (by decide) hfr hx ?_)
  intro a w y hy hfr hx
  refine wp_seq (refused (by decide) (by decide) hfr hx (fun h => by have : 0 ≤ G.skew := hOk.skew h; show -1 ≤ G.skew; omega) (fun h => by have : y.size ≤ 255 := h.obj; rw [hy] at this; omega) ?_)
  intro a w hfr hx
  exact tail42 hOk hp hfr hx
theorem tail36 (hOk : Ok G) (hp : G.pre.size ≤ 255) (hfr : Fr 5 g x a) (hx : Mem3 F n b w0 g x r G X w) : (tailOf 36).wp Tryf.prog (Post w0) a w := by
  refine wp_seq (copy_g (by decide) hfr hx ?_)
  intro a w hfr hx
  refine wp_seq (set_const (lawNode (-1)) off1 (by decide) (by decide) hfr hx ?_)
  intro a w hfr hx
  refine wp_seq (refused (by decide) (by decide) hfr hx (fun h => by have : 0 ≤ G.skew := hOk.skew h; show -1 ≤ G.skew; omega) (fun h => by have : (0 : Int) ≤ -1 := h.node0; omega) ?_)
  intro a w hfr hx
  exact tail39 hOk hp hfr hx
theorem tail33 (hOk : Ok G) (hp : G.pre.size ≤ 255) (hfr : Fr0 g a) (hm : Mem F n b w0 g r G w) : (tailOf 33).wp Tryf.prog (Post w0) a w := by
  refine wp_seq (new_g (p := 5) (by decide) (by decide) hfr hm ?_)
  intro a w x hfr hx
  refine wp_seq (set_const (lawNode (256)) off1 (by decide) (by decide) hfr hx ?_)
  intro a w hfr hx
  refine wp_seq (refused (by decide) (by decide) hfr hx (fun h => by have : 0 ≤ G.skew := hOk.skew h; show -1 ≤ G.skew; omega) (fun h => by have : (256 : Int) ≤ 255 := h.node1; omega) ?_)
  intro a w hfr hx
  exact tail36 hOk hp hfr hx

/-- if !accepted(x) { return false }: it is accepted -/
theorem accepted {i s1 s2 s3 t1 t2 t3 ty : Nat} {p1 p2 p3 : String} {e1 e2 e3 : Array Edge} {ts : Array TypeId} {T : Code} (hs1 : s1 < 189 ∧ 3 ≠ s1 ∧ p ≠ s1) (hs2 : s2 < 189 ∧ 3 ≠ s2 ∧ p ≠ s2) (hs3 : s3 < 189 ∧ 3 ≠ s3 ∧ p ≠ s3) (hfr : Fr p g x a) (hx : Mem3 F n b w0 g x r G X w) (hyes : Ok X)
    (hK : ∀ a' w', Fr p g x a' → Mem3 F n b w0 g x r G X w' → K a' w') :
    (Code.seq (.region i #[⟨some s1, .load 38 (.tmp p), t1, p1, e1, none⟩, ⟨some s2, .call ⟨.value (.func 24), #[.tmp s1], ts⟩, t2, p2, e2, none⟩, ⟨some s3, .unOp .not ty (.tmp s2), t3, p3, e3, none⟩] false) (.cond (.tmp s3) T .skip)).wp Tryf.prog (Exit.then K Q) a w := by
  refine wp_seq (wp_region_lit ?_)
  refine wpList_load_row rfl 38 _ rfl x hfr.tp 38 (lay n b X) (0, 0) _ hx.hx Tryf.underlying38 rfl info38 ?_
  have hfr1 := hfr.put (s := s1) (.agg (lay n b X)) hs1.2.1 hs1.2.2
  refine wpList_callF rfl 24 _ _ rfl #[.agg (lay n b X)] (map_one (hfr.same _ hs1.1)) isGo24 (acc_yes F n b X w hx.mem.ans hyes) ?_
  rintro e w1 ⟨rfl, hb⟩
  refine ⟨_, rfl, ?_⟩
  have hfr2 := hfr1.put (s := s2) (.bool true) hs2.2.1 hs2.2.2
  refine wpList_gives rfl (gives_not _ _ rfl true (hfr1.same _ hs2.1)) ?_
  refine wp_cond_false (hfr2.same _ hs3.1) (wp_skip ?_)
  exact hK _ _ (hfr2.put _ hs3.2.1 hs3.2.2) (hx.after hb)
theorem tail19 (hOk : Ok G) (hp : G.pre.size ≤ 255) (hfr : Fr 4 g x a) (hx : Mem3 F n b w0 g x r G G w) : (tailOf 19).wp Tryf.prog (Post w0) a w := by
  refine wp_seq (set_const (lawNode (255)) off1 (by decide) (by decide) hfr hx ?_)
  intro a w hfr hx
  refine wp_seq (set_call Value.string (fun v q => q.setObj v) (fun s : ByteArray => s.size = 255) lawObj isGo25 (fill25 255 (by decide)) off2 (by decide) (by decide) (by decide) (by decide) hfr hx ?_)
  intro a w y1 hy1 hfr hx
  refine wp_seq (set_call (fun v : Sl => Value.slice v.a v.l v.c) (fun v q => q.setVv v) (fun v : Sl => v.l = 48) lawVv isGo26 (fill26b 48 (by decide)) off5 (by decide) (by decide) (by decide) (by decide) hfr hx ?_)
  intro a w y2 hy2 hfr hx
  refine wp_seq (set_call (fun v : Sl => Value.slice v.a v.l v.c) (fun v q => q.setSv v) (fun v : Sl => v.l = 48) lawSv isGo26 (fill26b 48 (by decide)) off15 (by decide) (by decide) (by decide) (by decide) hfr hx ?_)
  intro a w y3 hy3 hfr hx
  refine wp_seq (set_call (fun v : Sl => Value.slice v.a v.l v.c) (fun v q => q.setHv v) (fun v : Sl => v.l = 48) lawHv isGo26 (fill26b 48 (by decide)) off25 (by decide) (by decide) (by decide) (by decide) hfr hx ?_)
  intro a w y4 hy4 hfr hx
  refine wp_seq (set_const (lawDepth (768)) off19 (by decide) (by decide) hfr hx ?_)
  intro a w hfr hx
  refine wp_seq (set_const (lawClk (true)) off11 (by decide) (by decide) hfr hx ?_)
  intro a w hfr hx
  refine wp_seq (set_const (lawSkew (0)) off12 (by decide) (by decide) hfr hx ?_)
  intro a w hfr hx
  refine wp_seq (set_call (fun v : Sl => Value.slice v.a v.l v.c) (fun v q => q.setVp v) (fun v : Sl => v.l = 255) lawVp isGo26 (fill26b 255 (by decide)) off6 (by decide) (by decide) (by decide) (by decide) hfr hx ?_)
  intro a w y5 hy5 hfr hx
  refine wp_seq (set_call (fun v : Sl => Value.slice v.a v.l v.c) (fun v q => q.setPa v) (fun v : Sl => v.l = 255) lawPa isGo26 (fill26b 255 (by decide)) off26 (by decide) (by decide) (by decide) (by decide) hfr hx ?_)
  intro a w y6 hy6 hfr hx
  refine wp_seq (set_call (fun v : Sl => Value.slice v.a v.l v.c) (fun v q => q.setVc v) (fun v : Sl => v.l = 8160) lawVc isGo26 (fill26b 8160 (by decide)) off8 (by decide) (by decide) (by decide) (by decide) hfr hx ?_)
  intro a w y7 hy7 hfr hx
  refine wp_seq (wp_region_held_drew (S := Held F n b w0 g x r G) (by kernel_rfl) ⟨_, hx.drew⟩ fun _ => ?_)
  replace hx := hx.drew
  refine takeF (i := 0) rfl (by kernel_rfl) (by kernel_rfl) (by kernel_rfl) (fun _ _ _ h => h) (fun w _ => gives_field 27 42 _ rfl g hfr.fr.t3 off27 (by decide)) ⟨_, hx⟩ hfr (by decide) ?_
  intro a hfr v0 _
  refine takeF (i := 1) rfl (by kernel_rfl) (by kernel_rfl) (by kernel_rfl) (fun _ _ _ h => h) (fun w hw => gives_in 9 _ rfl g 42 v0 38 (lay n b G) hw.choose_spec.mem.hg (.string G.pre) (lay_42 _ _ _) (by kernel_rfl)) ⟨_, hx⟩ hfr (by decide) ?_
  intro a hfr v1 _
  clear v0
  refine readyCall (i := 2) (by kernel_rfl) rfl (map_one rfl) isGo25 (fill25 255 (by decide) _) hfr (by decide) ?_
  rintro e w1 ⟨⟨y0, rfl, hy0⟩, hb⟩
  replace hx := hx.after hb
  refine ⟨_, rfl, ⟨_, hx⟩, ?_⟩
  clear hb
  intro a hfr v2 ho
  rw [← ho 100 (by decide)] at v1
  clear ho
  refine takeF (i := 3) rfl (by kernel_rfl) (by kernel_rfl) (by kernel_rfl) (fun _ _ _ h => h) (fun w _ => gives_cat _ _ rfl G.pre y0 v1 v2 (by omega)) ⟨_, hx⟩ hfr (by decide) ?_
  intro a hfr v3 _
  clear v1 v2
  refine readyCall (i := 4) (by kernel_rfl) rfl (map_two v3 rfl) isGo22 (cut22_pfx G.pre y0 255 hp _) hfr (by decide) ?_
  rintro e w2 ⟨⟨y, rfl, hy, hpf⟩, rfl⟩
  refine ⟨_, rfl, ⟨_, hx⟩, ?_⟩
  intro a hfr v4 _
  refine takeF (i := 5) rfl (by kernel_rfl) (by kernel_rfl) (by kernel_rfl) (fun _ _ _ h => h) (fun w _ => gives_field 28 43 _ rfl x hfr.tp off28 (by decide)) ⟨_, hx⟩ hfr (by decide) ?_
  intro a hfr v5 ho
  rw [← ho 103 (by decide)] at v4
  clear ho v3
  refine readySt (i := 6) (by kernel_rfl) rfl v5 v4 hx.hx ?_
  intro w3 hMv
  replace hx := hx.put hMv
  refine ⟨⟨_, hx⟩, wpAnyH_done (by kernel_rfl) ?_ _⟩
  clear hMv v4 v5
  change Code.wp _ _ _ _ _
  refine wp_seq (set_const (lawLim (1000)) off30 (by decide) (by decide) hfr hx ?_)
  intro a w hfr hx
  refine wp_seq (accepted (by decide) (by decide) (by decide) hfr hx ?_ ?_)
  · exact ⟨show (0 : Int) ≤ 255 by decide, show (255 : Int) ≤ 255 by decide, Nat.le_of_eq hy1, Nat.le_of_eq hy2, Nat.le_of_eq hy3, Nat.le_of_eq hy4, show (0 : Int) ≤ 768 by decide, show (768 : Int) ≤ 768 by decide, fun _ => show (0 : Int) ≤ 0 by decide, Nat.le_of_eq hy5, Nat.le_of_eq hy6, Nat.le_of_eq hy7, hy, hpf, show (0 : Int) ≤ 1000 by decide, show (1000 : Int) ≤ 1000 by decide⟩
  intro a w hfr hx
  exact tail33 hOk hp hfr.fr hx.mem
end Go.Proofs.Qxb6612340aFmt
