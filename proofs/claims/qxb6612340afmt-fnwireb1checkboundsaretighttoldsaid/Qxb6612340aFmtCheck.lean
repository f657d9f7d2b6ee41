import Derived.Test.Qxb6612340aFmtLay
namespace Go.Proofs.Qxb6612340aFmt
open Go.RowKit Go.Extern.Stop Go.Stop Go.Extern

def Res (r : Req) (e : Ending) : Prop := (Ok r ∧ e = .returned .nilIface) ∨ (¬ Ok r ∧ ∃ k, e = .returned (.iface 74 (.pointer (some ⟨k, 0, none⟩))))
theorem below2 {w w' : World} {o o' : Obj} (hb : Below ((w.alloc o).alloc o').heap.size ((w.alloc o).alloc o') w') : Below w.heap.size w w' :=
  (((Below.refl _ _).alloc (Nat.le_refl _) _).alloc (by simp) _).trans (hb.mono (by simp; omega))

set_option maxRecDepth 100000 in
set_option maxHeartbeats 4000000 in
theorem check34 (F : Interp) (n : Nat → Int) (b : Nat → Bool) (r : Req) (w : World) (hF : F.answers w.tape) (hs : r.clk = true → -1 ≤ r.skew) :
    Calls Tryf.prog 34 #[.agg (lay n b r)] w fun e w' => Res r e ∧ Below w.heap.size w w' := by
  obtain ⟨node, obj, ⟨vva, vvl, vvc⟩, ⟨vpa, vpl, vpc⟩, ⟨vca, vcl, vcc⟩, ⟨vfa, vfl, vfc⟩, clk, skew, ⟨sva, svl, svc⟩, depth, ⟨hva, hvl, hvc⟩, ⟨paa, pal, pac⟩, pre, st, lim⟩ := r
  unfold lay
  simp only at hs ⊢
  go_enter Tryf.func34, Tryf.ntmps34
  go_wp2_with fail
  refine (node38 F node _ (by exact hF)).mono ?_
  rintro e w' (⟨h0, h1, rfl, rfl⟩ | ⟨hno, k, rfl, hb⟩)
  · have hs1 : clk = false ∨ -1 ≤ skew := by
      cases clk
      · exact .inl rfl
      · exact .inr (hs rfl)
    have HS : Hid (clk = false ∨ -1 ≤ skew) := hs1
    clear hs hs1
    cases clk
    all_goals go_wp2_with fail
    all_goals first
    | (with_reducible show Calls _ 32 _ _ _
       obtain h9 | h9 := HS.out
       · cases h9
       obtain rfl : skew = -1 := by omega
       refine (errorf_dur F _ _ (by exact hF) (by rw [World.cell?_alloc_at]; all_goals first | rfl | simp) _ (by with_reducible exact pr_skew)).mono ?_
       rintro e w' ⟨k, rfl, hb⟩
       go_wp2
       go_ret
       exact ⟨.inr ⟨fun h => by
          have k1 : (0 : Int) ≤ -1 := h.skew rfl
          omega, _, rfl⟩, below2 hb⟩)
    | (with_reducible show Calls _ 32 _ _ _
       refine (errorf_int F _ _ _ _ (by exact hF) (by rw [World.cell?_alloc_at]; all_goals first | rfl | simp) (by first | with_reducible exact pq_obj | with_reducible exact pq_ver | with_reducible exact pq_dep | with_reducible exact pq_par | with_reducible exact pq_cro | with_reducible exact pq_sta | with_reducible exact pq_lim) (by first | with_reducible exact pr_obj | with_reducible exact pr_ver | with_reducible exact pr_dep | with_reducible exact pr_par | with_reducible exact pr_cro | with_reducible exact pr_sta | with_reducible exact pr_lim)).mono ?_
       rintro e w' ⟨k, rfl, hb⟩
       go_wp2
       go_ret
       exact ⟨.inr ⟨(fun h => by
            have k1 : obj.size ≤ 255 := h.obj
            have k2 : vvl ≤ 48 := h.vv
            have k3 : svl ≤ 48 := h.sv
            have k4 : hvl ≤ 48 := h.hv
            have k5 : 0 ≤ depth := h.dep0
            have k6 : depth ≤ 768 := h.dep1
            have k7 : vpl ≤ 255 := h.vp
            have k8 : pal ≤ 255 := h.pa
            have k9 : vcl ≤ 8160 := h.vc
            have k10 : st.size ≤ 255 := h.st
            have k11 : 0 ≤ lim := h.lim0
            have k12 : lim ≤ 1000 := h.lim1
            omega), _, rfl⟩, below2 hb⟩)
    | (with_reducible show Calls _ 40 _ _ _)
    all_goals (
       refine (pfx40 st pre _).mono ?_
       rintro e w' ⟨rfl, rfl⟩
       cases hp : pfx st pre
       · have HP : Hid (pfx st pre = false) := hp
         clear hp
         go_wp2_with fail
         refine (errorf_two F _ _ _ _ _ (by exact hF) (by rw [World.cell?_alloc_at]; all_goals first | rfl | simp) (by rw [World.cell?_alloc_at]; all_goals first | rfl | simp) (by with_reducible exact pq_two) (by with_reducible exact pr_two)).mono ?_
         rintro e w' ⟨k, rfl, hb⟩
         go_wp2
         go_ret
         exact ⟨.inr ⟨(fun h => by
            have k1 : pfx st pre = true := h.pre
            rw [HP.out] at k1
            exact Bool.noConfusion k1), _, rfl⟩, below2 hb⟩
       · have HP : Hid (pfx st pre = true) := hp
         clear hp
         go_wp2_with fail
         all_goals first
         | (with_reducible show Calls _ 32 _ _ _
            refine (errorf_int F _ _ _ _ (by exact hF) (by rw [World.cell?_alloc_at]; all_goals first | rfl | simp) (by first | with_reducible exact pq_obj | with_reducible exact pq_ver | with_reducible exact pq_dep | with_reducible exact pq_par | with_reducible exact pq_cro | with_reducible exact pq_sta | with_reducible exact pq_lim) (by first | with_reducible exact pr_obj | with_reducible exact pr_ver | with_reducible exact pr_dep | with_reducible exact pr_par | with_reducible exact pr_cro | with_reducible exact pr_sta | with_reducible exact pr_lim)).mono ?_
            rintro e w' ⟨k, rfl, hb⟩
            go_wp2
            go_ret
            exact ⟨.inr ⟨(fun h => by
                 have k1 : obj.size ≤ 255 := h.obj
                 have k2 : vvl ≤ 48 := h.vv
                 have k3 : svl ≤ 48 := h.sv
                 have k4 : hvl ≤ 48 := h.hv
                 have k5 : 0 ≤ depth := h.dep0
                 have k6 : depth ≤ 768 := h.dep1
                 have k7 : vpl ≤ 255 := h.vp
                 have k8 : pal ≤ 255 := h.pa
                 have k9 : vcl ≤ 8160 := h.vc
                 have k10 : st.size ≤ 255 := h.st
                 have k11 : 0 ≤ lim := h.lim0
                 have k12 : lim ≤ 1000 := h.lim1
                 omega), _, rfl⟩, below2 hb⟩)
         | (go_ret
            have k1 : obj.size ≤ 255 := by omega
            have k2 : vvl ≤ 48 := by omega
            have k3 : svl ≤ 48 := by omega
            have k4 : hvl ≤ 48 := by omega
            have k5 : 0 ≤ depth := by omega
            have k6 : depth ≤ 768 := by omega
            have k7 : vpl ≤ 255 := by omega
            have k8 : pal ≤ 255 := by omega
            have k9 : vcl ≤ 8160 := by omega
            have k10 : st.size ≤ 255 := by omega
            have k11 : 0 ≤ lim := by omega
            have k12 : lim ≤ 1000 := by omega
            exact ⟨.inl ⟨⟨h0, h1, k1, k2, k3, k4, k5, k6, by first | exact fun h => Bool.noConfusion (show false = true from h) | exact fun _ => (show 0 ≤ skew by omega), k7, k8, k9, k10, HP.out, k11, k12⟩, rfl⟩, (Below.refl _ _).alloc (Nat.le_refl _) _⟩))
  · clear hF
    go_wp2
    go_ret
    exact ⟨.inr ⟨fun h => hno ⟨h.node0, h.node1⟩, _, rfl⟩, ((Below.refl _ _).alloc (Nat.le_refl _) _).trans (hb.mono (by simp))⟩
end Go.Proofs.Qxb6612340aFmt
