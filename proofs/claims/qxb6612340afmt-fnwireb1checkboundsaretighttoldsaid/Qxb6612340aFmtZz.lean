import Derived.Test.Qxb6612340aFmtBuild
namespace Go.Proofs.Qxb6612340aFmt
open Go.RowKit Go.Extern.Stop Go.Stop Go.Extern

/-- some bool comes back; if it is true, the start is short -/
def Zz (r : Req) (w : World) (e : Ending) (w' : World) : Prop := ∃ t : Bool, e = .returned (.bool t) ∧ (t = true → r.st.size ≤ 1048576) ∧ Below w.heap.size w w'
theorem Zz.no {r : Req} {w w' : World} {e : Ending} (h : e = .returned (.bool false)) (hb : Below w.heap.size w w') : Zz r w e w' := ⟨false, h, (fun h => by cases h), hb⟩
theorem Zz.yes {r : Req} {w w' : World} {e : Ending} (h : e = .returned (.bool true)) (hs : r.st.size ≤ 1048576) (hb : Below w.heap.size w w') : Zz r w e w' := ⟨true, h, fun _ => hs, hb⟩

set_option maxRecDepth 100000 in
set_option maxHeartbeats 4000000 in
theorem zz20 (n : Nat → Int) (b : Nat → Bool) (r : Req) (w : World) : Calls Tryf.prog 20 #[.agg (lay n b r)] w (Zz r w) := by
  go_enter Tryf.func20, Tryf.ntmps20
  go_wp2_with (first
    | ((with_reducible show wpList _ _ _ (Oper.mk _ (Op.load _ _) _ _ _ _ :: _) _ _); refine wpList_load_in rfl _ _ rfl w.heap.size _ rfl 38 (lay n b r) (heap_alloc_new _ _) _ (by first | with_reducible_and_instances exact lay_2 n b r | with_reducible_and_instances exact lay_5 n b r | with_reducible_and_instances exact lay_6 n b r | with_reducible_and_instances exact lay_8 n b r | with_reducible_and_instances exact lay_9 n b r | with_reducible_and_instances exact lay_15 n b r | with_reducible_and_instances exact lay_40 n b r | with_reducible_and_instances exact lay_41 n b r | with_reducible_and_instances exact lay_42 n b r | with_reducible_and_instances exact lay_43 n b r) (by kernel_rfl) ?_))
  all_goals first
    | (go_ret; exact Zz.no rfl ((Below.refl _ _).alloc (Nat.le_refl _) _))
    | (go_ret; exact Zz.yes rfl (by omega) ((Below.refl _ _).alloc (Nat.le_refl _) _))
def lens (r : Req) : Array Value := #[.int .i64 r.obj.size, .int .i64 r.vv.l, .int .i64 r.vp.l, .int .i64 r.vc.l, .int .i64 r.vf.l, .int .i64 r.sv.l, .int .i64 r.hv.l, .int .i64 r.pa.l, .int .i64 r.pre.size, .int .i64 r.st.size]
theorem lens_get (r : Req) (k : Nat) (h : k < 10) : ∃ L : Nat, (lens r)[k]? = some (.int .i64 L) := by
  obtain rfl | rfl | rfl | rfl | rfl | rfl | rfl | rfl | rfl | rfl : k = 0 ∨ k = 1 ∨ k = 2 ∨ k = 3 ∨ k = 4 ∨ k = 5 ∨ k = 6 ∨ k = 7 ∨ k = 8 ∨ k = 9 := by omega
  all_goals exact ⟨_, rfl⟩
def AnyInt (w : World) (e : Ending) (w' : World) : Prop := ∃ t : Int, e = .returned (.int .i64 t) ∧ Below w.heap.size w w'
theorem AnyInt.mk {w w' : World} {e : Ending} {t : Int} (h : e = .returned (.int .i64 t)) (hb : Below w.heap.size w w') : AnyInt w e w' := ⟨t, h, hb⟩

set_option maxRecDepth 100000 in
set_option maxHeartbeats 4000000 in
theorem bytes21 (n : Nat → Int) (b : Nat → Bool) (r : Req) (w : World) : Calls Tryf.prog 21 #[.agg (lay n b r)] w (AnyInt w) := by
  have hB : Below w.heap.size w ((w.alloc (.cells (lay n b r) 38)).alloc (.cells (lens r) 50)) := ((Below.refl _ _).alloc (Nat.le_refl _) _).alloc (by simp) _
  go_enter Tryf.func21, Tryf.ntmps21
  go_wp2_with (first
    | ((with_reducible show wpList _ _ _ (Oper.mk _ (Op.load _ _) _ _ _ _ :: _) _ _); refine wpList_load_in rfl _ _ rfl w.heap.size _ rfl 38 (lay n b r) (heap_alloc_new _ _) _ (by first | with_reducible_and_instances exact lay_2 n b r | with_reducible_and_instances exact lay_5 n b r | with_reducible_and_instances exact lay_6 n b r | with_reducible_and_instances exact lay_8 n b r | with_reducible_and_instances exact lay_9 n b r | with_reducible_and_instances exact lay_15 n b r | with_reducible_and_instances exact lay_40 n b r | with_reducible_and_instances exact lay_41 n b r | with_reducible_and_instances exact lay_42 n b r | with_reducible_and_instances exact lay_43 n b r) (by kernel_rfl) ?_))
  go_loopw [4, 5] (fun t i wr => ∃ k : Nat, k ≤ 10 ∧ i = .int .i64 k ∧ (∃ s : Nat, t = .int .i64 s ∧ s ≤ 1048576 * k) ∧ wr = (w.alloc (.cells (lay n b r) 38)).alloc (.cells (lens r) 50)) (fun _ i _ => 10 - (intOf i).toNat)
  case atStart => exact ⟨0, Nat.zero_le _, rfl, ⟨0, rfl, Nat.zero_le _⟩, rfl⟩
  case round =>
    obtain ⟨k, hk, rfl, ⟨s, rfl, hs⟩, rfl⟩ := hrel
    by_cases hlt : k < 10
    · obtain ⟨L, hL⟩ := lens_get r k hlt
      by_cases hbig : 1048576 < L
      · go_wp2
        go_ret
        exact AnyInt.mk rfl hB
      · go_wp2
        go_roundw
        case rel => exact ⟨k + 1, by omega, by go_num, ⟨s + L, by go_num, by omega⟩, by trivial⟩
        case measure => simp [intOf]; omega
    · go_wp2
      go_ret
      exact AnyInt.mk rfl hB
end Go.Proofs.Qxb6612340aFmt
