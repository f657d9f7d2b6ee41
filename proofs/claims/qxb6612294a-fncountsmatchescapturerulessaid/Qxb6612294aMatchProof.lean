import Derived.Test.Qxb6612294aOpen
namespace Go.Proofs.Qxb6612294a
open Go.ChangeShapes Go.WideShapes Go.ChangeAt Go.RowKit

theorem law3_any (H : Nat → Bool) (a : Option Addr) (n c : Nat) (ks : Nat → Int) (hm : n ≤ maxLen) (h0 : a = none → n = 0 ∧ c = 0) (hwf : ∀ j, j < n → (Lit.int .i64 (ks j)).wf = true) (w : World) (hk : Keys w a n ks) :
    Calls Try.prog 3 #[.agg (hl H).toArray, .slice a n c] w fun e w' => e = .returned (.bool true) ∧ Below w.heap.size w w' := by
  by_cases hbig : 65536 < n
  · exact law3_big H a n c hbig hm w
  · cases a with
    | none =>
      obtain ⟨rfl, rfl⟩ := h0 rfl
      exact law3_nil H ks w
    | some x => exact law3_some H x n c ks (by omega) hwf w hk

set_option maxRecDepth 100000 in
theorem lifted3 (os : Os) (started : os.Started) (T : Type) (enc : TypeId × Value → T) :
    ReturnsInHanded {} Try.checked os 3 .any (Rows.fnCountsMatchesCaptureRulesSpec.pre6 enc Try.prog Try.f3 Rows.fnCountsMatchesCaptureRulesRow.domain false) (Rows.fnCountsMatchesCaptureRulesSpec.post enc Try.prog Try.f3 false true false false) := by
  refine returnsInHanded_of_change (C := Try.checked) own started (by kernel_rfl) Try.func3
    (ChangeSpec.witness6 (enc := enc) (C := Try.checked) false ⟨#[], #[.agg (Array.replicate 385 (.bool false)), .slice none 0 0], []⟩ 8 (by kernel_rfl) (by kernel_rfl) (by kernel_rfl) (by kernel_rfl)) ?_
  intro W base args ds gs before hval0 hW hcnd _
  have hval : ∀ (j : Nat) t v, Try.f3.params[j]? = some t → args[j]? = some v → Value.okWide Try.prog W .any base t v := hval0
  have hW' := hW
  obtain ⟨p, q, hA0, hV, rfl, hfz, hnd⟩ := hW
  have hA : DataW.TrodAll enc Try.prog W 0 (fun _ => true) true Try.f3.params.toList args.toList ds p := hA0
  rw [Try.params3] at hA hval
  obtain ⟨v0, vs0, d0, ds0, p0, q0, hargs, rfl, rfl, h0, r0⟩ := trodAll_cons hA
  obtain ⟨v1, vs1, d1, ds1, p1, q1, rfl, rfl, rfl, h1, r1⟩ := trodAll_cons r0
  obtain ⟨rfl, rfl, rfl⟩ := trodAll_nil r1
  obtain rfl : args = #[v0, v1] := by cases args; simp_all
  obtain ⟨rfl, rfl⟩ := trodVars_none hV
  have lt0 : ∀ x ∈ p0, x.block < W.heap.size := by obtain ⟨m, hm⟩ := h0; exact DataW.trod_lt m _ _ _ hm
  have lt1 : ∀ x ∈ p1, x.block < W.heap.size := by obtain ⟨m, hm⟩ := h1; exact DataW.trod_lt m _ _ _ hm
  obtain ⟨H, e0⟩ := open_held (hval 0 22 v0 rfl rfl) h0
  obtain ⟨a, n, c, ks, e1, hm, hnil, hk, hwf⟩ := open_keys (hval 1 23 v1 rfl rfl) h1
  clear hA0 hval0
  have hwalk := law3_any H a n c ks hm hnil hwf W hk
  rw [← e0, ← e1] at hwalk
  refine hwalk.mono fun e W' ⟨he, bel⟩ => ?_
  subst he
  exact ⟨_, rfl, _, _, _, [], _, [], hW', trodAll_mk1 (shut_bool Try.underlying4 _), (trodAll_cons_mk (Below.trod laidOut (by kernel_rfl) (of_decide_eq_true (by kernel_rfl)) h0 bel lt0) (trodAll_cons_mk (Below.trod laidOut (by kernel_rfl) (of_decide_eq_true (by kernel_rfl)) h1 bel lt1) trodAll_mk0)), rfl, bel.frame _, fun h => by cases h⟩

theorem over3 : Rows.fnCountsMatchesCaptureRulesRow.holds Try.pinned (OpenSpec.ofChange Rows.fnCountsMatchesCaptureRulesSpec) :=
  OpenClaim.holds_of_wide 3 Try.f3 rfl rfl rfl rfl rfl rfl rfl ⟨rfl, rfl, rfl, rfl, rfl⟩ rfl rfl rfl rfl rfl (by kernel_rfl) Try.func3 (by kernel_rfl)
    (of_decide_eq_true (by kernel_rfl)) (by unfold Func.isWrapper; first | (rw [if_pos (by decide +kernel)]; kernel_rfl) | (rw [if_neg (by decide +kernel)]; exact ⟨rfl, rfl⟩))
    (fun os started T enc _ => lifted3 os started T enc)

theorem countsMatchesCaptureRules : Rows.FnCountsMatchesCaptureRulesSaid := over3
end Go.Proofs.Qxb6612294a
