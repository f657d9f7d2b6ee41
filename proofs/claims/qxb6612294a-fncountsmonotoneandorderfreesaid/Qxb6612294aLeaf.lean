import Derived.Test.Qxb6612294aProg
import Derived.WalkKit
import Derived.WalkSpells
import Derived.Deep.MidRow
import Derived.Maps.OwnSet
namespace Go.Proofs.Qxb6612294a
open Go.RowKit

/-- some j < n with H (o + j) -/
def anyIn (H : Nat → Bool) (o n : Nat) : Bool := (List.range n).any (fun j => H (o + j))
theorem anyIn_true {H : Nat → Bool} {o n j : Nat} (h : j < n) (hj : H (o + j) = true) : anyIn H o n = true := by
  unfold anyIn; rw [List.any_eq_true]; exact ⟨j, by simpa using h, hj⟩
theorem anyIn_false {H : Nat → Bool} {o n : Nat} (h : ∀ j, j < n → H (o + j) = false) : anyIn H o n = false := by
  unfold anyIn; rw [List.any_eq_false]; intro j hj; simp at hj; simp [h j hj]

set_option maxHeartbeats 400000 in
theorem index_any (H : Nat → Bool) (b o p n c : Nat) (hn : n ≤ 1000) (w : World) (hc : ∀ j, j < n → w.cell? ⟨b, p + j, none⟩ = some (.bool (H (o + j)))) :
    Calls Try.prog 12 #[.slice (some ⟨b, p, none⟩) n c, .bool true] w fun e w' => ∃ r : Int, e = .returned (.int .i64 r) ∧ decide (0 ≤ r) = anyIn H o n ∧ w = w' := by
  go_enter Try.func12, Try.ntmps12
  go_wp2
  go_loop [8] (fun i => ∃ k : Nat, k ≤ n ∧ i = .int .i64 k ∧ ∀ j, j < k → H (o + j) = false) (fun i => n - (intOf i).toNat)
  case atStart => exact ⟨0, Nat.zero_le _, rfl, fun j hj => by omega⟩
  case round =>
    obtain ⟨k, hk, rfl, hf⟩ := hrel
    have HF : Hid (∀ j, j < k → H (o + j) = false) := hf
    clear hf
    by_cases hlt : k < n
    · have hcell := hc k hlt
      have HC : Hid (∀ j, j < n → w.cell? ⟨b, p + j, none⟩ = some (.bool (H (o + j)))) := hc
      clear hc
      cases hH : H (o + k)
      · rw [hH] at hcell
        have HH : Hid (H (o + k) = false) := hH
        clear hH
        go_wp2
        go_round
        case rel => exact ⟨k + 1, by omega, by go_num, fun j hj => by
          by_cases e : j = k
          · rw [e]; exact HH.out
          · exact HF.out j (by omega)⟩
        case measure => simp [intOf]; omega
      · rw [hH] at hcell
        have HH : Hid (H (o + k) = true) := hH
        clear hH
        go_wp2
        go_ret
        exact ⟨k, rfl, by rw [anyIn_true hlt HH.out]; simp, rfl⟩
    · go_wp2
      go_ret
      exact ⟨-1, rfl, by rw [anyIn_false (fun j hj => HF.out j (by omega))]; rfl, rfl⟩

set_option maxHeartbeats 400000 in
theorem contains_any (H : Nat → Bool) (b o p n c : Nat) (hn : n ≤ 1000) (w : World) (hc : ∀ j, j < n → w.cell? ⟨b, p + j, none⟩ = some (.bool (H (o + j)))) :
    Calls Try.prog 11 #[.slice (some ⟨b, p, none⟩) n c, .bool true] w fun e w' => e = .returned (.bool (anyIn H o n)) ∧ w = w' := by
  go_enter Try.func11, Try.ntmps11
  go_wp2_with fail
  refine (index_any H b o p n c hn _ hc).mono ?_
  rintro e w' ⟨r, rfl, hr, rfl⟩
  have HR : Hid (decide (0 ≤ r) = anyIn H o n) := hr
  clear hr hc
  go_wp2
  go_ret
  exact ⟨congrArg (fun x => Ending.returned (.bool x)) HR.out, rfl⟩

/-- the cells of the array 'held' -/
def hl (H : Nat → Bool) : List Value := (List.range 385).map (fun j => Value.bool (H j))
theorem hl_length (H : Nat → Bool) : (hl H).length = 385 := by simp [hl]
theorem hl_get (H : Nat → Bool) (j : Nat) (h : j < 385) : (hl H)[j]? = some (.bool (H j)) := by
  unfold hl; rw [List.getElem?_map, List.getElem?_range h]; rfl
theorem hl_one (H : Nat → Bool) : ∀ v ∈ hl H, v.oneCell' = true := by
  intro v hv; unfold hl at hv; simp at hv; obtain ⟨j, _, rfl⟩ := hv; rfl
theorem info22 : (Try.prog.info? 22).map (·.size) = some 385 := by kernel_rfl
theorem sizeOf4 (w : World) : (sizeOf 4).run Try.prog w = .ok 1 w := by kernel_rfl

/-- how many of the first k hold -/
def cnt (H : Nat → Bool) : Nat → Nat
  | 0 => 0
  | k + 1 => cnt H k + if H k then 1 else 0
theorem cnt_le (H : Nat → Bool) (k : Nat) : cnt H k ≤ k := by
  induction k with
  | zero => simp [cnt]
  | succ k ih => simp only [cnt]; split <;> omega

theorem run_index22 (H : Nat → Bool) (k : Nat) (h : k < 385) (w : World) :
    (Instr.index 22 (.agg (hl H).toArray) (.int .i64 (k : Int))).run Try.prog w = .ok (.bool (H k)) w := by
  have h1 : (0 : Int) ≤ (k : Int) ∧ (k : Int) < ((385 : Nat) : Int) := by omega
  simp [Instr.index, asIntOf, run_underlying Try.underlying22, h, part]
  rw [hl_get H k h]
  simp

set_option maxHeartbeats 400000 in
set_option maxRecDepth 100000 in
theorem traded_any (H : Nat → Bool) (b : Nat) (w : World) (hc : w.rangeAt b 5 (hl H)) :
    Calls Try.prog 10 #[.pointer (some ⟨b, 0, none⟩)] w fun e w' => e = .returned (.int .i64 (cnt H 385)) ∧ w = w' := by
  have hi : (Try.prog.info? 22).map (·.size) = some (hl H).length := by rw [hl_length]; exact info22
  go_enter Try.func10, Try.ntmps10
  go_wp2_with (refine wpList_load_mid rfl 22 _ rfl b 5 rfl (hl H) _ hc Try.underlying22 rfl hi ?_)
  clear hc hi
  go_loop [3, 10] (fun t i => ∃ k : Nat, k ≤ 385 ∧ i = .int .i64 k ∧ t = .int .i64 (cnt H k)) (fun _ i => 385 - (intOf i).toNat)
  case atStart => exact ⟨0, Nat.zero_le _, rfl, rfl⟩
  case round =>
    obtain ⟨k, hk, rfl, rfl⟩ := hrel
    have hcl := cnt_le H k
    by_cases hlt : k < 385
    · have hix := run_index22 H k hlt
      cases hH : H k
      · rw [hH] at hix
        have e : cnt H (k + 1) = cnt H k := by simp [cnt, hH]
        have HE : Hid (cnt H (k + 1) = cnt H k) := e
        clear e hH
        go_wp2
        go_round
        case rel => exact ⟨k + 1, by omega, by go_num, by rw [HE.out]⟩
        case measure => simp [intOf]; omega
      · rw [hH] at hix
        have e : cnt H (k + 1) = cnt H k + 1 := by simp [cnt, hH]
        have HE : Hid (cnt H (k + 1) = cnt H k + 1) := e
        clear e hH
        go_wp2
        go_round
        case rel => exact ⟨k + 1, by omega, by go_num, by rw [HE.out]; go_num⟩
        case measure => simp [intOf]; omega
    · obtain rfl : k = 385 := by omega
      go_wp2
      go_ret
      exact ⟨rfl, rfl⟩
end Go.Proofs.Qxb6612294a
