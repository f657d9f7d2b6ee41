import Derived.Test.Qxb6612294aOpen
import Derived.Test.Qxb6612294aLaw4b
namespace Go.Proofs.Qxb6612294a
open Go.ChangeShapes Go.WideShapes Go.ChangeAt Go.RowKit

theorem law4_any (H : Nat → Bool) (a : Option Addr) (n c : Nat) (i x : Int) (ks : Nat → Int) (hm : n ≤ maxLen) (h0 : a = none → n = 0 ∧ c = 0) (hxw : (Lit.int .i64 x).wf = true) (hwf : ∀ j, j < n → (Lit.int .i64 (ks j)).wf = true) (w : World) (hk : Keys w a n ks) :
    Calls Try.prog 4 #[.agg (hl H).toArray, .slice a n c, .int .i64 i, .int .i64 x] w fun e w' => e = .returned (.bool true) ∧ Below w.heap.size w w' := by
  by_cases hbig : 65536 < n ∨ i < 0 ∨ 385 ≤ i
  · exact law4_early H a n c i x hm hbig w
  · obtain ⟨m, rfl⟩ := Int.eq_ofNat_of_zero_le (show 0 ≤ i by omega)
    cases a with
    | none =>
      obtain ⟨rfl, rfl⟩ := h0 rfl
      exact law4_nil H 0 0 m x ks (Nat.le_refl _) (by omega) hxw hwf w
    | some y => exact law4_some H y n c m x ks (by omega) (by omega) hxw hwf w hk

set_option maxRecDepth 100000 in
theorem lifted4 (os : Os) (started : os.Started) (T : Type) (enc : TypeId × Value → T) :
    ReturnsInHanded {} Try.checked os 4 .any (Rows.fnCountsMonotoneAndOrderFreeSpec.pre6 enc Try.prog Try.f4 Rows.fnCountsMonotoneAndOrderFreeRow.domain false) (Rows.fnCountsMonotoneAndOrderFreeSpec.post enc Try.prog Try.f4 false true false false) := by
  refine returnsInHanded_of_change (C := Try.checked) own started (by kernel_rfl) Try.func4
    (ChangeSpec.witness6 (enc := enc) (C := Try.checked) false ⟨#[], #[.agg (Array.replicate 385 (.bool false)), .slice none 0 0, .int .i64 0, .int .i64 0], []⟩ 8 (by kernel_rfl) (by kernel_rfl) (by kernel_rfl) (by kernel_rfl)) ?_
  intro W base args ds gs before hval0 hW hcnd _
  have hval : ∀ (j : Nat) t v, Try.f4.params[j]? = some t → args[j]? = some v → Value.okWide Try.prog W .any base t v := hval0
  have hW' := hW
  obtain ⟨p, q, hA0, hV, rfl, hfz, hnd⟩ := hW
  have hA : DataW.TrodAll enc Try.prog W 0 (fun _ => true) true Try.f4.params.toList args.toList ds p := hA0
  rw [Try.params4] at hA hval
  obtain ⟨v0, vs0, d0, ds0, p0, q0, hargs, rfl, rfl, h0, r0⟩ := trodAll_cons hA
  obtain ⟨v1, vs1, d1, ds1, p1, q1, rfl, rfl, rfl, h1, r1⟩ := trodAll_cons r0
  obtain ⟨v2, vs2, d2, ds2, p2, q2, rfl, rfl, rfl, h2, r2⟩ := trodAll_cons r1
  obtain ⟨v3, vs3, d3, ds3, p3, q3, rfl, rfl, rfl, h3, r3⟩ := trodAll_cons r2
  obtain ⟨rfl, rfl, rfl⟩ := trodAll_nil r3
  obtain rfl : args = #[v0, v1, v2, v3] := by cases args; simp_all
  obtain ⟨rfl, rfl⟩ := trodVars_none hV
  have lt0 : ∀ x ∈ p0, x.block < W.heap.size := by obtain ⟨m, hm⟩ := h0; exact DataW.trod_lt m _ _ _ hm
  have lt1 : ∀ x ∈ p1, x.block < W.heap.size := by obtain ⟨m, hm⟩ := h1; exact DataW.trod_lt m _ _ _ hm
  obtain ⟨H, e0⟩ := open_held (hval 0 22 v0 rfl rfl) h0
  obtain ⟨a, n, c, ks, e1, hm, hnil, hk, hwf⟩ := open_keys (hval 1 23 v1 rfl rfl) h1
  obtain ⟨i, rfl, rfl, rfl, wi⟩ := open_int Try.underlying3 (hval 2 3 v2 rfl rfl) h2
  obtain ⟨x, rfl, rfl, rfl, wx⟩ := open_int Try.underlying2 (hval 3 2 v3 rfl rfl) h3
  clear hA0 hval0
  have hwalk := law4_any H a n c i x ks hm hnil wx hwf W hk
  rw [← e0, ← e1] at hwalk
  refine hwalk.mono fun e W' ⟨he, bel⟩ => ?_
  subst he
  exact ⟨_, rfl, _, _, _, [], _, [], hW', trodAll_mk1 (shut_bool Try.underlying4 _), (trodAll_cons_mk (Below.trod laidOut (by kernel_rfl) (of_decide_eq_true (by kernel_rfl)) h0 bel lt0) (trodAll_cons_mk (Below.trod laidOut (by kernel_rfl) (of_decide_eq_true (by kernel_rfl)) h1 bel lt1) (trodAll_cons_mk (shut_int Try.underlying3 wi) (trodAll_cons_mk (shut_int Try.underlying2 wx) trodAll_mk0)))), rfl, bel.frame _, fun h => by cases h⟩

theorem over4 : Rows.fnCountsMonotoneAndOrderFreeRow.holds Try.pinned (OpenSpec.ofChange Rows.fnCountsMonotoneAndOrderFreeSpec) :=
  OpenClaim.holds_of_wide 4 Try.f4 rfl rfl rfl rfl rfl rfl rfl ⟨rfl, rfl, rfl, rfl, rfl⟩ rfl rfl rfl rfl rfl (by kernel_rfl) Try.func4 (by kernel_rfl)
    (of_decide_eq_true (by kernel_rfl)) (by unfold Func.isWrapper; first | (rw [if_pos (by decide +kernel)]; kernel_rfl) | (rw [if_neg (by decide +kernel)]; exact ⟨rfl, rfl⟩))
    (fun os started T enc _ => lifted4 os started T enc)

theorem countsMonotoneAndOrderFree : Rows.FnCountsMonotoneAndOrderFreeSaid := over4
end Go.Proofs.Qxb6612294a
