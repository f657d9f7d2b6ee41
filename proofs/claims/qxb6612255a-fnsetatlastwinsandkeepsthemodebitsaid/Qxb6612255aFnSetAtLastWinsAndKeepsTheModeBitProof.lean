/-
  'Rows.FnSetAtLastWinsAndKeepsTheModeBitSaid' proved. The frame (from 'THE ROW's STEP' on) is the one that the guide's skeleton tool wrote for this function; the bit laws, the callees' contracts and the walks are the prover's.
-/
import Derived.Test.Qxb6612255aRows
import Derived.WalkKit
import Derived.ProofKit
import Derived.OpenShut
import Derived.ShutString
import Derived.WalkSpells
import Derived.Laws.BitsAllLaws
import Derived.RegionTactic
import Derived.ChangeAlike
namespace Go.Proofs.Qxb6612255a.fnSetAtLastWinsAndKeepsTheModeBit
open Go.ChangeShapes Go.WideShapes Go.ChangeAt Go.RowKit
open Go.ChangeMaps (open_string shut_string)
set_option linter.unusedVariables false      -- a walk need not use every 'w<i>' (that an integer argument fits its kind)

theorem own : ownKnob Try.prog.godebug = none := by kernel_rfl

theorem hi_bit (s : Nat) (h : 2147483648 ≤ s) (h2 : s < 4294967296) : s &&& 2147483648 = 2147483648 := by
  have := nat_bit 31 s
  simp at this
  omega
theorem lo_bit (s : Nat) (h : s < 2147483648) : s &&& 2147483648 = 0 := by
  have := nat_bit 31 s
  simp at this
  omega
theorem set_hi (at' s : Int) (h0 : 0 ≤ at') (h1 : at' < 2147483648) (h2 : 2147483648 ≤ s) (h3 : s < 4294967296) :
    bits .or .u32 at' (bits .and .u32 s 2147483648) = at' + 2147483648 := by
  rw [u32_and s 2147483648 (by omega) (by omega) (by omega) (by omega)]
  have e : s.toNat &&& (2147483648 : Int).toNat = 2147483648 := hi_bit s.toNat (by omega) (by omega)
  rw [e, u32_or _ _ h0 (by omega) (by omega) (by omega)]
  have e2 : at'.toNat ||| ((2147483648 : Nat) : Int).toNat = 2147483648 + at'.toNat := by
    rw [Nat.or_comm]; exact nat_join 31 2147483648 at'.toNat (by decide) (by omega)
  rw [e2]; omega
theorem set_lo (at' s : Int) (h0 : 0 ≤ at') (h1 : at' < 2147483648) (h2 : 0 ≤ s) (h3 : s < 2147483648) :
    bits .or .u32 at' (bits .and .u32 s 2147483648) = at' := by
  rw [u32_and s 2147483648 (by omega) (by omega) (by omega) (by omega)]
  have e : s.toNat &&& (2147483648 : Int).toNat = 0 := lo_bit s.toNat (by omega)
  rw [e, u32_or _ _ h0 (by omega) (by omega) (by omega)]
  simp; omega
set_option maxHeartbeats 400000 in
theorem fields_any (b : Nat) (x y z : Int) (w : World) (h0 : w.cell? ⟨b, 0, none⟩ = some (.int .u32 x)) (h1 : w.cell? ⟨b, 1, none⟩ = some (.int .u32 y)) (h2 : w.cell? ⟨b, 2, none⟩ = some (.int .u32 z)) :
    Calls Try.prog 9 #[.pointer (some ⟨b, 0, none⟩)] w fun e w' => e = .returned (.tuple #[.int .u32 x, .int .u32 y, .int .u32 z]) ∧ w' = w.drew := by
  go_enter Try.func9, Try.ntmps9
  go_wp2
  go_region
  all_goals go_wp2
  all_goals (go_ret3; exact ⟨rfl, rfl⟩)
set_option maxHeartbeats 400000 in
theorem set_any (b : Nat) (a y : Int) (w : World) (h1 : w.cell? ⟨b, 1, none⟩ = some (.int .u32 y)) (f1 : w.frozen? ⟨b, 1, none⟩ = false) :
    Calls Try.prog 8 #[.pointer (some ⟨b, 0, none⟩), .int .u32 a] w fun e w' => e = .returned (.tuple #[]) ∧ w' = w.setCell ⟨b, 1, none⟩ (.int .u32 (bits .or .u32 a (bits .and .u32 y 2147483648))) := by
  go_enter Try.func8, Try.ntmps8
  go_wp2
  go_end0
  go_wp2
  go_end0
  exact ⟨rfl, rfl⟩
set_option maxHeartbeats 400000 in
theorem mk_any (x y z : Int) (w : World)  :
    Calls Try.prog 7 #[.int .u32 x, .int .u32 y, .int .u32 z] w fun e w' => e = .returned (.pointer (some ⟨w.heap.size, 0, none⟩)) ∧ w' = w.alloc (.cells #[.int .u32 x, .int .u32 y, .int .u32 z] 48) := by
  go_enter Try.func7, Try.ntmps7
  go_wp2
  go_ret
  exact ⟨rfl, rfl⟩

set_option maxHeartbeats 400000 in
theorem walk_first (x s z f g : Int) (f1 : 2147483648 ≤ f) (w : World) :
    Calls Try.prog 4 #[.int .u32 x, .int .u32 s, .int .u32 z, .int .u32 f, .int .u32 g] w fun e w' => e = .returned (.bool true) ∧ Grown w w' := by
  go_enter Try.func4, Try.ntmps4
  go_wp2
  go_ret
  exact ⟨rfl, Grown.refl _⟩
set_option maxHeartbeats 400000 in
theorem walk_second (x s z f g : Int) (f1 : f < 2147483648) (g1 : 2147483648 ≤ g) (w : World) :
    Calls Try.prog 4 #[.int .u32 x, .int .u32 s, .int .u32 z, .int .u32 f, .int .u32 g] w fun e w' => e = .returned (.bool true) ∧ Grown w w' := by
  go_enter Try.func4, Try.ntmps4
  go_wp2
  go_ret
  exact ⟨rfl, Grown.refl _⟩
set_option maxHeartbeats 1000000 in
theorem walk_hi (x s z f g : Int) (hs : 2147483648 ≤ s) (hs' : s < 4294967296) (f0 : 0 ≤ f) (f1 : f < 2147483648) (g0 : 0 ≤ g) (g1 : g < 2147483648) (w : World) :
    Calls Try.prog 4 #[.int .u32 x, .int .u32 s, .int .u32 z, .int .u32 f, .int .u32 g] w fun e w' => e = .returned (.bool true) ∧ Grown w w' := by
  have e1 := set_hi f s f0 f1 hs hs'
  have e2 := set_hi g (f + 2147483648) g0 g1 (by omega) (by omega)
  have e3 := set_hi g s g0 g1 hs hs'
  go_enter Try.func4, Try.ntmps4
  go_wp2_with (go_at_call 7; refine (mk_any _ _ _ _).mono ?_; rintro e w' ⟨rfl, rfl⟩)
  refine (set_any w.heap.size f s _ (by go_simp) (by go_simp)).mono ?_; rintro e w' ⟨rfl, rfl⟩
  go_wp2_with fail
  refine (set_any w.heap.size g (f + 2147483648) _ (by go_simp) (by go_simp)).mono ?_; rintro e w' ⟨rfl, rfl⟩
  go_wp2_with (go_at_call 7; refine (mk_any _ _ _ _).mono ?_; rintro e w' ⟨rfl, rfl⟩)
  refine (set_any (w.heap.size + 1) g s _ (by go_simp) (by go_simp)).mono ?_; rintro e w' ⟨rfl, rfl⟩
  go_wp2_with fail
  refine (fields_any w.heap.size x (g + 2147483648) z _ (by go_simp) (by go_simp) (by go_simp)).mono ?_; rintro e w' ⟨rfl, rfl⟩
  go_wp2_with fail
  refine (fields_any (w.heap.size + 1) x (g + 2147483648) z _ (by go_simp) (by go_simp) (by go_simp)).mono ?_; rintro e w' ⟨rfl, rfl⟩
  go_wp2
  go_ret
  exact ⟨rfl, by repeat (first | exact Grown.refl _ | apply Grown.drew | apply Grown.alloc)⟩
set_option maxHeartbeats 1000000 in
theorem walk_lo (x s z f g : Int) (hs : 0 ≤ s) (hs' : s < 2147483648) (f0 : 0 ≤ f) (f1 : f < 2147483648) (g0 : 0 ≤ g) (g1 : g < 2147483648) (w : World) :
    Calls Try.prog 4 #[.int .u32 x, .int .u32 s, .int .u32 z, .int .u32 f, .int .u32 g] w fun e w' => e = .returned (.bool true) ∧ Grown w w' := by
  have e1 := set_lo f s f0 f1 hs hs'
  have e2 := set_lo g f g0 g1 f0 f1
  have e3 := set_lo g s g0 g1 hs hs'
  go_enter Try.func4, Try.ntmps4
  go_wp2_with (go_at_call 7; refine (mk_any _ _ _ _).mono ?_; rintro e w' ⟨rfl, rfl⟩)
  refine (set_any w.heap.size f s _ (by go_simp) (by go_simp)).mono ?_; rintro e w' ⟨rfl, rfl⟩
  go_wp2_with fail
  refine (set_any w.heap.size g f _ (by go_simp) (by go_simp)).mono ?_; rintro e w' ⟨rfl, rfl⟩
  go_wp2_with (go_at_call 7; refine (mk_any _ _ _ _).mono ?_; rintro e w' ⟨rfl, rfl⟩)
  refine (set_any (w.heap.size + 1) g s _ (by go_simp) (by go_simp)).mono ?_; rintro e w' ⟨rfl, rfl⟩
  go_wp2_with fail
  refine (fields_any w.heap.size x g z _ (by go_simp) (by go_simp) (by go_simp)).mono ?_; rintro e w' ⟨rfl, rfl⟩
  go_wp2_with fail
  refine (fields_any (w.heap.size + 1) x g z _ (by go_simp) (by go_simp) (by go_simp)).mono ?_; rintro e w' ⟨rfl, rfl⟩
  go_wp2
  go_ret
  exact ⟨rfl, by repeat (first | exact Grown.refl _ | apply Grown.drew | apply Grown.alloc)⟩
/-! ### STEP 1: THE WALK: the Go text returns true. 'Grown w w'': the world has at most new blocks (Derived/RowKit3.lean). Part the cases AHEAD of 'go_enter' where a test parts the walk; take each callee by a contract of your own. -/
theorem walk (a0 : Int) (a1 : Int) (a2 : Int) (a3 : Int) (a4 : Int) (w0 : (Lit.int .u32 a0).wf = true) (w1 : (Lit.int .u32 a1).wf = true) (w2 : (Lit.int .u32 a2).wf = true) (w3 : (Lit.int .u32 a3).wf = true) (w4 : (Lit.int .u32 a4).wf = true) (w : World) :
    Calls Try.prog 4 #[.int .u32 a0, .int .u32 a1, .int .u32 a2, .int .u32 a3, .int .u32 a4] w fun e w' => e = .returned (.bool true) ∧ Grown w w' := by
  obtain ⟨s0, s1⟩ := bounds_u32 w1
  obtain ⟨f0, _⟩ := bounds_u32 w3
  obtain ⟨g0, _⟩ := bounds_u32 w4
  by_cases hf : 2147483648 ≤ a3
  · exact walk_first a0 a1 a2 a3 a4 hf w
  by_cases hg : 2147483648 ≤ a4
  · exact walk_second a0 a1 a2 a3 a4 (by omega) hg w
  by_cases hs : 2147483648 ≤ a1
  · exact walk_hi a0 a1 a2 a3 a4 hs (by omega) f0 (by omega) g0 (by omega) w
  · exact walk_lo a0 a1 a2 a3 a4 s0 (by omega) f0 (by omega) g0 (by omega) w

/-! ### THE ROW's STEP: WRITTEN OUT: LEAVE IT -/
set_option maxRecDepth 100000 in
theorem lifted (os : Os) (started : os.Started) (H : Type) (enc : TypeId × Value → H) :
    ReturnsInHanded {} Try.checked os 4 .any (Rows.fnSetAtLastWinsAndKeepsTheModeBitSpec.pre6 enc Try.prog Try.f4 Rows.fnSetAtLastWinsAndKeepsTheModeBitRow.domain false) (Rows.fnSetAtLastWinsAndKeepsTheModeBitSpec.post enc Try.prog Try.f4 false true false false) := by
  refine returnsInHanded_of_change (C := Try.checked) own started (by kernel_rfl) Try.func4
    (ChangeSpec.witness6 (enc := enc) (C := Try.checked) false ⟨#[], #[.int .u32 0, .int .u32 0, .int .u32 0, .int .u32 0, .int .u32 0], []⟩ 8 (by kernel_rfl) (by kernel_rfl) (by kernel_rfl) (by kernel_rfl)) ?_
  intro W base args ds gs before hval0 hW hcnd _
  have hval : ∀ (j : Nat) t v, Try.f4.params[j]? = some t → args[j]? = some v → Value.okWide Try.prog W .any base t v := hval0
  have hW' := hW
  obtain ⟨p, q, hA0, hV, rfl, hfz, hnd⟩ := hW
  have hA : DataW.TrodAll enc Try.prog W 0 (fun _ => true) true Try.f4.params.toList args.toList ds p := hA0
  rw [Try.params4] at hA hval
  obtain ⟨v0, vs0, d0, ds0, p0, q0, hargs, rfl, rfl, h0, r0⟩ := trodAll_cons hA
  obtain ⟨v1, vs1, d1, ds1, p1, q1, rfl, rfl, rfl, h1, r1⟩ := trodAll_cons r0
  obtain ⟨v2, vs2, d2, ds2, p2, q2, rfl, rfl, rfl, h2, r2⟩ := trodAll_cons r1
  obtain ⟨v3, vs3, d3, ds3, p3, q3, rfl, rfl, rfl, h3, r3⟩ := trodAll_cons r2
  obtain ⟨v4, vs4, d4, ds4, p4, q4, rfl, rfl, rfl, h4, r4⟩ := trodAll_cons r3
  obtain ⟨rfl, rfl, rfl⟩ := trodAll_nil r4
  obtain rfl : args = #[v0, v1, v2, v3, v4] := by cases args; simp_all
  obtain ⟨rfl, rfl⟩ := trodVars_none hV
  obtain ⟨a0, rfl, rfl, rfl, w0⟩ := open_int Try.underlying22 (hval 0 22 v0 rfl rfl) h0
  obtain ⟨a1, rfl, rfl, rfl, w1⟩ := open_int Try.underlying22 (hval 1 22 v1 rfl rfl) h1
  obtain ⟨a2, rfl, rfl, rfl, w2⟩ := open_int Try.underlying22 (hval 2 22 v2 rfl rfl) h2
  obtain ⟨a3, rfl, rfl, rfl, w3⟩ := open_int Try.underlying22 (hval 3 22 v3 rfl rfl) h3
  obtain ⟨a4, rfl, rfl, rfl, w4⟩ := open_int Try.underlying22 (hval 4 22 v4 rfl rfl) h4
  clear hA0 hval0
  simp only [List.append_nil] at hW'
  refine (walk a0 a1 a2 a3 a4 w0 w1 w2 w3 w4 W).mono fun e W' ⟨he, hg⟩ => ?_
  subst he
  exact ⟨_, rfl, post_of_same (pa := []) (pv := []) hW' (fun _ _ _ => (trodAll_cons_mk (shut_bool Try.underlying4 _) trodAll_mk0)) (fun sp _ => (trodAll_cons_mk (shut_int Try.underlying22 w0) (trodAll_cons_mk (shut_int Try.underlying22 w1) (trodAll_cons_mk (shut_int Try.underlying22 w2) (trodAll_cons_mk (shut_int Try.underlying22 w3) (trodAll_cons_mk (shut_int Try.underlying22 w4) trodAll_mk0)))))) (fun _ _ => rfl) rfl
    (hg.frame _) hg.2.1 (ok_one (by kernel_rfl) rfl (okWide_bool_mk Try.underlying4 _))⟩

theorem over : Rows.fnSetAtLastWinsAndKeepsTheModeBitRow.holds Try.pinned (OpenSpec.ofChange Rows.fnSetAtLastWinsAndKeepsTheModeBitSpec) :=
  OpenClaim.holds_of_wide 4 Try.f4 rfl rfl rfl rfl rfl rfl rfl ⟨rfl, rfl, rfl, rfl, rfl⟩ rfl rfl rfl rfl rfl (by kernel_rfl) Try.func4 (by kernel_rfl)
    (of_decide_eq_true (by kernel_rfl)) (by unfold Func.isWrapper; first | (rw [if_pos (by decide +kernel)]; kernel_rfl) | (rw [if_neg (by decide +kernel)]; exact ⟨rfl, rfl⟩))
    (fun os started H enc _ => lifted os started H enc)

/-- ████ THE STATEMENT ████ -/
theorem proved : Rows.FnSetAtLastWinsAndKeepsTheModeBitSaid :=
  over
end Go.Proofs.Qxb6612255a.fnSetAtLastWinsAndKeepsTheModeBit
