import Derived.Test.Qxb6612305aProg
import Derived.WalkKit
import Derived.WalkSpells
namespace Go.Proofs.Qxb6612305a
open Go.RowKit

/-- WHAT THE WALK IS TOLD OF A SLICE OF STRINGS: n of them, nm j the j-th. -/
def Strs (w : World) (a : Option Addr) (n : Nat) (nm : Nat → ByteArray) : Prop :=
  0 < n → ∃ b off, a = some ⟨b, off, none⟩ ∧ ∀ j, j < n → w.cell? ⟨b, off + j, none⟩ = some (.string (nm j))
/-- .. OF A SLICE OF int -/
def Ints (w : World) (a : Option Addr) (n : Nat) (de : Nat → Int) : Prop :=
  0 < n → ∃ b off, a = some ⟨b, off, none⟩ ∧ ∀ j, j < n → w.cell? ⟨b, off + j, none⟩ = some (.int .i64 (de j))
theorem Strs.below {w w' : World} {a : Option Addr} {n : Nat} {nm : Nat → ByteArray} (h : Strs w a n nm) (hb : Below w.heap.size w w') : Strs w' a n nm := by
  intro hn
  obtain ⟨b, off, rfl, hc⟩ := h hn
  refine ⟨b, off, rfl, fun j hj => ?_⟩
  rw [hb.cell (p := ⟨b, off + j, none⟩) (block_lt_of_cell (hc j hj))]
  exact hc j hj
theorem Ints.below {w w' : World} {a : Option Addr} {n : Nat} {de : Nat → Int} (h : Ints w a n de) (hb : Below w.heap.size w w') : Ints w' a n de := by
  intro hn
  obtain ⟨b, off, rfl, hc⟩ := h hn
  refine ⟨b, off, rfl, fun j hj => ?_⟩
  rw [hb.cell (p := ⟨b, off + j, none⟩) (block_lt_of_cell (hc j hj))]
  exact hc j hj

/-- it comes back with some bool -/
def AnyBool (e : Ending) : Prop := ∃ r : Bool, e = .returned (.bool r)
theorem AnyBool.mk (r : Bool) : AnyBool (.returned (.bool r)) := ⟨r, rfl⟩

set_option maxHeartbeats 1000000 in
theorem bytes5_any (ct la : Int) (a d i : Option Addr) (n nc nd dc ni ic : Nat) (nm im : Nat → ByteArray) (hm : n ≤ maxLen) (hdm : nd ≤ maxLen) (him : ni ≤ maxLen) (w : World) (hn : Strs w a n nm) (hi : Strs w i ni im) :
    Calls Try.prog 5 #[.int .i64 ct, .int .i64 la, .slice a n nc, .slice d nd dc, .slice i ni ic] w fun e w' => AnyBool e ∧ w = w' := by
  unfold maxLen at hm hdm him
  have HN : Hid (Strs w a n nm) := hn
  have HI : Hid (Strs w i ni im) := hi
  clear hn hi
  go_enter Try.func5, Try.ntmps5
  by_cases hbn : 1048576 < n
  · go_wp2
    go_ret
    exact ⟨AnyBool.mk _, rfl⟩
  go_wp2_with fail
  go_loop [11, 12] (fun t i => ∃ k : Nat, k ≤ n ∧ i = .int .i64 k ∧ ∃ z : Int, 0 ≤ z ∧ z ≤ 1048576 ∧ t = .int .i64 z) (fun _ i => n - (intOf i).toNat)
  case atStart => exact ⟨0, Nat.zero_le _, rfl, _, by omega, by omega, rfl⟩
  case round =>
    obtain ⟨k, hk, rfl, z, hz0, hz1, rfl⟩ := hrel
    by_cases hlt : k < n
    · obtain ⟨b, off, rfl, hc⟩ := HN.out (by omega)
      have hck := hc k hlt
      obtain ⟨s, hs⟩ : ∃ s, s = nm k := ⟨_, rfl⟩
      rw [← hs] at hck
      clear hc hs
      by_cases h1 : 1048576 < s.size
      · go_wp2
        go_ret
        exact ⟨AnyBool.mk _, rfl⟩
      by_cases h2 : 1048576 < z + s.size
      · go_wp2
        go_ret
        exact ⟨AnyBool.mk _, rfl⟩
      · go_wp2
        go_round
        case rel => exact ⟨k + 1, by omega, by go_num, _, by omega, by omega, rfl⟩
        case measure => simp [intOf]; omega
    · obtain rfl : k = n := by omega
      by_cases hbd : 1048576 < nd
      · go_wp2
        go_ret
        exact ⟨AnyBool.mk _, rfl⟩
      by_cases hbd2 : 1048576 < z + nd
      · go_wp2
        go_ret
        exact ⟨AnyBool.mk _, rfl⟩
      by_cases hbi : 1048576 < ni
      · go_wp2
        go_ret
        exact ⟨AnyBool.mk _, rfl⟩
      by_cases hbi2 : 1048576 < z + nd + ni
      · go_wp2
        go_ret
        exact ⟨AnyBool.mk _, rfl⟩
      go_wp2_with fail
      go_loop [11, 13] (fun t i => ∃ k : Nat, k ≤ ni ∧ i = .int .i64 k ∧ ∃ z : Int, 0 ≤ z ∧ z ≤ 1048576 ∧ t = .int .i64 z) (fun _ i => ni - (intOf i).toNat)
      case atStart => exact ⟨0, Nat.zero_le _, rfl, _, by omega, by omega, rfl⟩
      case round =>
        obtain ⟨m, hm2, rfl, y, hy0, hy1, rfl⟩ := hrel
        by_cases hlt2 : m < ni
        · obtain ⟨b, off, rfl, hc⟩ := HI.out (by omega)
          have hck := hc m hlt2
          obtain ⟨s, hs⟩ : ∃ s, s = im m := ⟨_, rfl⟩
          rw [← hs] at hck
          clear hc hs
          by_cases h1 : 1048576 < s.size
          · go_wp2
            go_ret
            exact ⟨AnyBool.mk _, rfl⟩
          by_cases h2 : 1048576 < y + s.size
          · go_wp2
            go_ret
            exact ⟨AnyBool.mk _, rfl⟩
          · go_wp2
            go_round
            case rel => exact ⟨m + 1, by omega, by go_num, _, by omega, by omega, rfl⟩
            case measure => simp [intOf]; omega
        · obtain rfl : m = ni := by omega
          go_wp2
          go_ret
          exact ⟨AnyBool.mk _, rfl⟩
set_option maxHeartbeats 1000000 in
theorem bytes13_any (ct la : Int) (a d i : Option Addr) (n nc nd dc ni ic : Nat) (nm im : Nat → ByteArray) (hm : n ≤ maxLen) (hdm : nd ≤ maxLen) (him : ni ≤ maxLen) (w : World) (hn : Strs w a n nm) (hi : Strs w i ni im) :
    Calls Try.prog 13 #[.int .i64 ct, .int .i64 la, .slice a n nc, .slice d nd dc, .slice i ni ic] w fun e w' => AnyBool e ∧ w = w' := by
  unfold maxLen at hm hdm him
  have HN : Hid (Strs w a n nm) := hn
  have HI : Hid (Strs w i ni im) := hi
  clear hn hi
  go_enter Try.func13, Try.ntmps13
  by_cases hbn : 1048576 < n
  · go_wp2
    go_ret
    exact ⟨AnyBool.mk _, rfl⟩
  go_wp2_with fail
  go_loop [11, 12] (fun t i => ∃ k : Nat, k ≤ n ∧ i = .int .i64 k ∧ ∃ z : Int, 0 ≤ z ∧ z ≤ 1048576 ∧ t = .int .i64 z) (fun _ i => n - (intOf i).toNat)
  case atStart => exact ⟨0, Nat.zero_le _, rfl, _, by omega, by omega, rfl⟩
  case round =>
    obtain ⟨k, hk, rfl, z, hz0, hz1, rfl⟩ := hrel
    by_cases hlt : k < n
    · obtain ⟨b, off, rfl, hc⟩ := HN.out (by omega)
      have hck := hc k hlt
      obtain ⟨s, hs⟩ : ∃ s, s = nm k := ⟨_, rfl⟩
      rw [← hs] at hck
      clear hc hs
      by_cases h1 : 1048576 < s.size
      · go_wp2
        go_ret
        exact ⟨AnyBool.mk _, rfl⟩
      by_cases h2 : 1048576 < z + s.size
      · go_wp2
        go_ret
        exact ⟨AnyBool.mk _, rfl⟩
      · go_wp2
        go_round
        case rel => exact ⟨k + 1, by omega, by go_num, _, by omega, by omega, rfl⟩
        case measure => simp [intOf]; omega
    · obtain rfl : k = n := by omega
      by_cases hbd : 1048576 < nd
      · go_wp2
        go_ret
        exact ⟨AnyBool.mk _, rfl⟩
      by_cases hbd2 : 1048576 < z + nd
      · go_wp2
        go_ret
        exact ⟨AnyBool.mk _, rfl⟩
      by_cases hbi : 1048576 < ni
      · go_wp2
        go_ret
        exact ⟨AnyBool.mk _, rfl⟩
      by_cases hbi2 : 1048576 < z + nd + ni
      · go_wp2
        go_ret
        exact ⟨AnyBool.mk _, rfl⟩
      go_wp2_with fail
      go_loop [11, 13] (fun t i => ∃ k : Nat, k ≤ ni ∧ i = .int .i64 k ∧ ∃ z : Int, 0 ≤ z ∧ z ≤ 1048576 ∧ t = .int .i64 z) (fun _ i => ni - (intOf i).toNat)
      case atStart => exact ⟨0, Nat.zero_le _, rfl, _, by omega, by omega, rfl⟩
      case round =>
        obtain ⟨m, hm2, rfl, y, hy0, hy1, rfl⟩ := hrel
        by_cases hlt2 : m < ni
        · obtain ⟨b, off, rfl, hc⟩ := HI.out (by omega)
          have hck := hc m hlt2
          obtain ⟨s, hs⟩ : ∃ s, s = im m := ⟨_, rfl⟩
          rw [← hs] at hck
          clear hc hs
          by_cases h1 : 1048576 < s.size
          · go_wp2
            go_ret
            exact ⟨AnyBool.mk _, rfl⟩
          by_cases h2 : 1048576 < y + s.size
          · go_wp2
            go_ret
            exact ⟨AnyBool.mk _, rfl⟩
          · go_wp2
            go_round
            case rel => exact ⟨m + 1, by omega, by go_num, _, by omega, by omega, rfl⟩
            case measure => simp [intOf]; omega
        · obtain rfl : m = ni := by omega
          go_wp2
          go_ret
          exact ⟨AnyBool.mk _, rfl⟩

/-- zzStateSize: where it says yes the three lengths are at most 4096 -/
def SizedAns (n nd ni : Nat) (e : Ending) : Prop := ∃ r : Bool, e = .returned (.bool r) ∧ (r = true → n ≤ 4096 ∧ nd ≤ 4096 ∧ ni ≤ 4096)
theorem SizedAns.no (n nd ni : Nat) : SizedAns n nd ni (.returned (.bool false)) := ⟨false, rfl, fun h => by cases h⟩
theorem SizedAns.yes {n nd ni : Nat} (r : Bool) (h1 : n ≤ 4096) (h2 : nd ≤ 4096) (h3 : ni ≤ 4096) : SizedAns n nd ni (.returned (.bool r)) := ⟨r, rfl, fun _ => ⟨h1, h2, h3⟩⟩

set_option maxHeartbeats 1000000 in
theorem size6_any (a d i : Option Addr) (n nc nd dc ni ic : Nat) (nm im : Nat → ByteArray) (hm : n ≤ maxLen) (hdm : nd ≤ maxLen) (him : ni ≤ maxLen) (w : World) (hn : Strs w a n nm) (hi : Strs w i ni im) :
    Calls Try.prog 6 #[.slice a n nc, .slice d nd dc, .slice i ni ic] w fun e w' => SizedAns n nd ni e ∧ w = w' := by
  unfold maxLen at hm hdm him
  have HN : Hid (Strs w a n nm) := hn
  have HI : Hid (Strs w i ni im) := hi
  clear hn hi
  by_cases h1 : 4096 < n
  · go_enter Try.func6, Try.ntmps6
    go_wp2
    go_ret
    exact ⟨SizedAns.no _ _ _, rfl⟩
  by_cases h2 : 4096 < nd
  · go_enter Try.func6, Try.ntmps6
    go_wp2
    go_ret
    exact ⟨SizedAns.no _ _ _, rfl⟩
  by_cases h3 : 4096 < ni
  · go_enter Try.func6, Try.ntmps6
    go_wp2
    go_ret
    exact ⟨SizedAns.no _ _ _, rfl⟩
  go_enter Try.func6, Try.ntmps6
  go_wp2_with fail
  go_loop [7, 8] (fun t i => ∃ k : Nat, k ≤ n ∧ i = .int .i64 k ∧ ∃ z : Int, t = .int .i64 z) (fun _ i => n - (intOf i).toNat)
  case atStart => exact ⟨0, Nat.zero_le _, rfl, _, rfl⟩
  case round =>
    obtain ⟨k, hk, rfl, z, rfl⟩ := hrel
    by_cases hlt : k < n
    · obtain ⟨b, off, rfl, hc⟩ := HN.out (by omega)
      have hck := hc k hlt
      obtain ⟨s, hs⟩ : ∃ s, s = nm k := ⟨_, rfl⟩
      rw [← hs] at hck
      clear hc hs
      go_wp2
      go_round
      case rel => exact ⟨k + 1, by omega, by go_num, _, rfl⟩
      case measure => simp [intOf]; omega
    · obtain rfl : k = n := by omega
      go_wp2_with fail
      go_loop [7, 9] (fun t i => ∃ k : Nat, k ≤ ni ∧ i = .int .i64 k ∧ ∃ z : Int, t = .int .i64 z) (fun _ i => ni - (intOf i).toNat)
      case atStart => exact ⟨0, Nat.zero_le _, rfl, _, rfl⟩
      case round =>
        obtain ⟨m, hm2, rfl, y, rfl⟩ := hrel
        by_cases hlt2 : m < ni
        · obtain ⟨b, off, rfl, hc⟩ := HI.out (by omega)
          have hck := hc m hlt2
          obtain ⟨s, hs⟩ : ∃ s, s = im m := ⟨_, rfl⟩
          rw [← hs] at hck
          clear hc hs
          go_wp2
          go_round
          case rel => exact ⟨m + 1, by omega, by go_num, _, rfl⟩
          case measure => simp [intOf]; omega
        · obtain rfl : m = ni := by omega
          go_wp2
          go_ret
          exact ⟨SizedAns.yes _ (by omega) (by omega) (by omega), rfl⟩

set_option maxHeartbeats 1000000 in
theorem premise7_any (ct la : Int) (a i : Option Addr) (n nc ni ic : Nat) (hm : n ≤ 4096) (him : ni ≤ 4096) (w : World) :
    Calls Try.prog 7 #[.int .i64 ct, .int .i64 la, .slice a n nc, .slice i ni ic] w fun e w' => AnyBool e ∧ w = w' := by
  by_cases h1 : ct < n + ni
  · go_enter Try.func7, Try.ntmps7
    go_wp2
    go_ret
    exact ⟨AnyBool.mk _, rfl⟩
  by_cases h2 : ct = 0
  · subst h2
    go_enter Try.func7, Try.ntmps7
    go_wp2
    all_goals (go_ret; exact ⟨AnyBool.mk _, rfl⟩)
  · have h3 : (ct == 0) = false := by simpa using h2
    go_enter Try.func7, Try.ntmps7
    go_wp2
    go_ret
    exact ⟨AnyBool.mk _, rfl⟩
end Go.Proofs.Qxb6612305a
