import Derived.Test.Qxb6612340aFmtBuild
import Derived.Test.Qxb6612340aFmtCheck
namespace Go.Proofs.Qxb6612340aFmt
open Go.RowKit Go.Extern.Stop Go.Stop Go.Extern

set_option maxRecDepth 100000 in
set_option maxHeartbeats 1000000 in
theorem check30 (F : Interp) (n : Nat → Int) (b : Nat → Bool) (r : Req) (w : World) (hF : F.answers w.tape) (hs : r.clk = true → -1 ≤ r.skew) :
    Calls Tryf.prog 30 #[.agg (lay n b r)] w fun e w' => Res r e ∧ Below w.heap.size w w' := by
  go_enter Tryf.func30, Tryf.ntmps30
  go_wp2_with (first
    | ((with_reducible show wpList _ _ _ (Oper.mk _ (Op.load 64 _) _ _ _ _ :: _) _ _); refine wpList_load_row rfl 64 _ rfl w.heap.size rfl 64 (lay n b r) (0, 0) _ (heap_alloc_new _ _) Tryf.underlying64 rfl info64 ?_))
  refine (check34 F n b r _ (by exact hF) hs).mono ?_
  rintro e w' ⟨hr, hb⟩
  obtain ⟨ho, rfl⟩ | ⟨ho, k, rfl⟩ := hr
  · have HO : Hid (Ok r) := ho
    clear ho hs hF
    go_wp2
    go_ret
    exact ⟨.inl ⟨HO.out, rfl⟩, ((Below.refl _ _).alloc (Nat.le_refl _) _).trans (hb.mono (by simp))⟩
  · have HO : Hid (¬ Ok r) := ho
    clear ho hs hF
    go_wp2
    go_ret
    exact ⟨.inr ⟨HO.out, k, rfl⟩, ((Below.refl _ _).alloc (Nat.le_refl _) _).trans (hb.mono (by simp))⟩

set_option maxRecDepth 100000 in
set_option maxHeartbeats 1000000 in
theorem acc_yes (F : Interp) (n : Nat → Int) (b : Nat → Bool) (r : Req) (w : World) (hF : F.answers w.tape) (ho : Ok r) :
    Calls Tryf.prog 24 #[.agg (lay n b r)] w fun e w' => e = .returned (.bool true) ∧ Below w.heap.size w w' := by
  have hs : r.clk = true → -1 ≤ r.skew := fun h => by have := ho.skew h; omega
  have HO : Hid (Ok r) := ho
  clear ho
  go_enter Tryf.func24, Tryf.ntmps24
  go_wp2_with (first
    | ((with_reducible show wpList _ _ _ (Oper.mk _ (Op.load 38 _) _ _ _ _ :: _) _ _); refine wpList_load_row rfl 38 _ rfl w.heap.size rfl 38 (lay n b r) (0, 0) _ (heap_alloc_new _ _) Tryf.underlying38 rfl info38 ?_))
  refine (build31 n b r _).mono ?_
  rintro e w1 ⟨rfl, hb1⟩
  go_wp2_with fail
  refine (check30 F n b r w1 (by rw [hb1.tape]; exact hF) hs).mono ?_
  rintro e w2 ⟨hr, hb⟩
  have hB : Below w.heap.size w w2 := (((Below.refl _ _).alloc (Nat.le_refl _) _).trans (hb1.mono (by simp))).trans (hb.mono (Nat.le_trans (by simp) hb1.size))
  obtain ⟨_, rfl⟩ | ⟨hno, _⟩ := hr
  · clear hb hb1 hs hF
    go_wp2
    go_ret
    exact ⟨rfl, hB⟩
  · exact (hno HO.out).elim

set_option maxRecDepth 100000 in
set_option maxHeartbeats 1000000 in
theorem acc_no (F : Interp) (n : Nat → Int) (b : Nat → Bool) (r : Req) (w : World) (hF : F.answers w.tape) (hs : r.clk = true → -1 ≤ r.skew) (ho : ¬ Ok r) :
    Calls Tryf.prog 24 #[.agg (lay n b r)] w fun e w' => e = .returned (.bool false) ∧ Below w.heap.size w w' := by
  have HO : Hid (¬ Ok r) := ho
  clear ho
  go_enter Tryf.func24, Tryf.ntmps24
  go_wp2_with (first
    | ((with_reducible show wpList _ _ _ (Oper.mk _ (Op.load 38 _) _ _ _ _ :: _) _ _); refine wpList_load_row rfl 38 _ rfl w.heap.size rfl 38 (lay n b r) (0, 0) _ (heap_alloc_new _ _) Tryf.underlying38 rfl info38 ?_))
  refine (build31 n b r _).mono ?_
  rintro e w1 ⟨rfl, hb1⟩
  go_wp2_with fail
  refine (check30 F n b r w1 (by rw [hb1.tape]; exact hF) hs).mono ?_
  rintro e w2 ⟨hr, hb⟩
  have hB : Below w.heap.size w w2 := (((Below.refl _ _).alloc (Nat.le_refl _) _).trans (hb1.mono (by simp))).trans (hb.mono (Nat.le_trans (by simp) hb1.size))
  obtain ⟨hyes, rfl⟩ | ⟨_, k, rfl⟩ := hr
  · exact (HO.out hyes).elim
  · clear hb hb1 hs hF
    go_wp2
    go_ret
    exact ⟨rfl, hB⟩
end Go.Proofs.Qxb6612340aFmt
