import Derived.Test.Qxb6612294aZz
namespace Go.Proofs.Qxb6612294a
open Go.RowKit

/-- n flags -/
def flags (f : Nat → Bool) (n : Nat) : Array Value := ((List.range n).map (fun j => Value.bool (f j))).toArray
theorem flags_size (f : Nat → Bool) (n : Nat) : (flags f n).size = n := by simp [flags]
theorem flags_get (f : Nat → Bool) (n j : Nat) (h : j < n) : (flags f n)[j]? = some (.bool (f j)) := by
  simp [flags, h]
theorem flags_set (f g : Nat → Bool) (n i : Nat) (h : ∀ j, j < n → g j = if j = i then true else f j) : (flags f n).setIfInBounds i (.bool true) = flags g n := by
  apply Array.ext_getElem?
  intro j
  by_cases hj : j < n
  · rw [Array.getElem?_setIfInBounds, flags_get g n j hj, h j hj]
    by_cases e : i = j
    · subst e; simp [flags_size, hj]
    · rw [if_neg e, flags_get f n j hj, if_neg (fun e' => e e'.symm)]
  · have h1 : (flags g n)[j]? = none := by simp [flags_size]; omega
    have h2 : ((flags f n).setIfInBounds i (.bool true))[j]? = none := by simp [flags_size]; omega
    rw [h1, h2]
theorem flags_congr {f g : Nat → Bool} {n : Nat} (h : ∀ j, j < n → f j = g j) : flags f n = flags g n := by
  unfold flags
  congr 1
  apply List.map_congr_left
  intro j hj
  rw [h j (by simpa using hj)]

/-- windowTraded[j] behind k rounds -/
def winTo (H : Nat → Bool) (k j : Nat) : Bool := (List.range k).any (fun i => H i && i / 30 == j)
theorem winTo_miss (H : Nat → Bool) (k j : Nat) (h : H k = false) : winTo H (k + 1) j = winTo H k j := by
  simp [winTo, List.range_succ, h]
theorem winTo_hit (H : Nat → Bool) (k j : Nat) (h : H k = true) : winTo H (k + 1) j = if j = k / 30 then true else winTo H k j := by
  unfold winTo
  rw [List.range_succ, List.any_append]
  by_cases e : j = k / 30
  · simp [h, e]
  · simp [h, e]; intro e2; exact absurd e2.symm e
theorem winTo_end (H : Nat → Bool) (j : Nat) (hj : j < 13) : winTo H 385 j = winOk H j := by
  unfold winOk
  cases h : anyIn H (30 * j) (min 30 (385 - 30 * j))
  · unfold winTo
    rw [List.any_eq_false]
    intro i hi
    simp at hi ⊢
    intro hH e
    have := anyIn_true (H := H) (o := 30 * j) (n := min 30 (385 - 30 * j)) (j := i - 30 * j) (by omega) (by rw [show 30 * j + (i - 30 * j) = i by omega]; exact hH)
    rw [this] at h; cases h
  · unfold anyIn at h
    rw [List.any_eq_true] at h
    obtain ⟨i, hi, hH⟩ := h
    simp at hi
    unfold winTo
    rw [List.any_eq_true]
    exact ⟨30 * j + i, by simp; omega, by simp [hH]; omega⟩

theorem zero52 (w : World) : (zeroValue 52).run Try.prog w = .ok (.agg (flags (fun _ => false) 13)) w := by kernel_rfl
theorem zero53 (w : World) : (zeroValue 53).run Try.prog w = .ok (.agg (flags (fun _ => false) 56)) w := by kernel_rfl

theorem isIn_succ (ks : Nat → Int) (k : Nat) (y : Int) : isIn ks (k + 1) y = (isIn ks k y || ks k == y) := by
  simp [isIn, List.range_succ]
theorem isIn_miss {ks : Nat → Int} {k : Nat} {x : Int} (hx : x = ks k) (h : x < 54000000000000 ∨ 57300000000000 < x ∨ (x - 54000000000000) % 60000000000 ≠ 0) (m : Nat) (hm : m < 56) : isIn ks (k + 1) (mkKey m) = isIn ks k (mkKey m) := by
  rw [isIn_succ, ← hx]
  have : (x == mkKey m) = false := by
    rw [beq_eq_false_iff_ne]; unfold mkKey; omega
  rw [this, Bool.or_false]
theorem isIn_hit {ks : Nat → Int} {k : Nat} {x : Int} (hx : x = ks k) (h1 : 54000000000000 ≤ x) (h3 : (x - 54000000000000) % 60000000000 = 0) (m : Nat) :
    isIn ks (k + 1) (mkKey m) = if m = ((x - 54000000000000) / 60000000000).toNat then true else isIn ks k (mkKey m) := by
  rw [isIn_succ, ← hx]
  by_cases e : m = ((x - 54000000000000) / 60000000000).toNat
  · rw [if_pos e]
    have : (x == mkKey m) = true := by
      rw [beq_iff_eq]; unfold mkKey; omega
    rw [this, Bool.or_true]
  · rw [if_neg e]
    have : (x == mkKey m) = false := by
      rw [beq_eq_false_iff_ne]; unfold mkKey; omega
    rw [this, Bool.or_false]

set_option maxHeartbeats 1000000 in
set_option maxRecDepth 100000 in
theorem model_any (H : Nat → Bool) (a : Option Addr) (n c : Nat) (ks : Nat → Int) (hn : n ≤ 1000000) (w : World) (hk : Keys w a n ks) :
    Calls Try.prog 7 #[.agg (hl H).toArray, .slice a n c] w fun e w' => e = .returned (.bool (cntB H (fun m => isIn ks n (mkKey m)))) ∧ Below w.heap.size w w' := by
  have HK : Hid (Keys w a n ks) := hk
  clear hk
  have hz2 := zero52
  have hz3 := zero53
  go_enter Try.func7, Try.ntmps7
  go_wp2_with fail
  clear hz2
  go_loopw [5, 7] (fun t i wr => ∃ k : Nat, k ≤ 385 ∧ i = .int .i64 k ∧ t = .int .i64 (cnt H k) ∧ wr = (w.alloc (.cells (hl H).toArray 22)).alloc (.cells (flags (winTo H k) 13) 52)) (fun _ i _ => 385 - (intOf i).toNat)
  case atStart => exact ⟨0, Nat.zero_le _, rfl, rfl, rfl⟩
  case round =>
    obtain ⟨k, hk, rfl, rfl, rfl⟩ := hrel
    have hcl := cnt_le H k
    by_cases hlt : k < 385
    · have hget := hl_get H k hlt
      have hfs := flags_size (winTo H k) 13
      cases hH : H k
      · rw [hH] at hget
        have HE : Hid (cnt H (k + 1) = cnt H k) := by simp [Hid, cnt, hH]
        have HF : Hid (flags (winTo H (k + 1)) 13 = flags (winTo H k) 13) := flags_congr (fun j _ => winTo_miss H k j hH)
        clear hH
        go_wp2
        go_roundw
        case rel => exact ⟨k + 1, by omega, by go_num, by rw [HE.out], by rw [HF.out]⟩
        case measure => simp [intOf]; omega
      · rw [hH] at hget
        have HE : Hid (cnt H (k + 1) = cnt H k + 1) := by simp [Hid, cnt, hH]
        have HF : Hid ((flags (winTo H k) 13).setIfInBounds (k / 30) (.bool true) = flags (winTo H (k + 1)) 13) := flags_set _ _ _ _ (fun j _ => winTo_hit H k j hH)
        obtain ⟨ov, hold⟩ : ∃ ov, (flags (winTo H k) 13)[k / 30]? = some ov := ⟨_, flags_get (winTo H k) 13 (k / 30) (by omega)⟩
        clear hH hfs
        go_wp2
        go_roundw
        case rel => exact ⟨k + 1, by omega, by go_num, by rw [HE.out]; go_num, by rw [HF.out]⟩
        case measure => simp [intOf]; omega
    · obtain rfl : k = 385 := by omega
      have hfl : flags (winTo H 385) 13 = flags (winOk H) 13 := flags_congr (fun j hj => winTo_end H j hj)
      rw [hfl]
      clear hfl hk hlt
      by_cases hfew : cnt H 385 < 193
      · go_wp2
        go_ret
        exact ⟨by rw [cntB_few _ (by omega)]; rfl, ((Below.refl _ _).alloc (Nat.le_refl _) _).alloc (by simp) _⟩
      go_wp2_with fail
      go_loop [8] (fun i => ∃ k : Nat, k ≤ 13 ∧ i = .int .i64 k ∧ ∀ j, j < k → winOk H j = true) (fun i => 13 - (intOf i).toNat)
      case atStart => exact ⟨0, Nat.zero_le _, rfl, fun j hj => by omega⟩
      case round =>
        obtain ⟨k, hk, rfl, hf⟩ := hrel
        have HF : Hid (∀ j, j < k → winOk H j = true) := hf
        clear hf
        by_cases hlt : k < 13
        · have hget := flags_get (winOk H) 13 k hlt
          cases hw : winOk H k
          · rw [hw] at hget
            have HW : Hid (winOk H k = false) := hw
            clear hw
            go_wp2
            go_ret
            exact ⟨by rw [cntB_win _ hlt HW.out]; rfl, ((Below.refl _ _).alloc (Nat.le_refl _) _).alloc (by simp) _⟩
          · rw [hw] at hget
            have HW : Hid (winOk H k = true) := hw
            clear hw
            go_wp2
            go_round
            case rel => exact ⟨k + 1, by omega, by go_num, fun j hj => by
              by_cases e : j = k
              · rw [e]; exact HW.out
              · exact HF.out j (by omega)⟩
            case measure => simp [intOf]; omega
        · obtain rfl : k = 13 := by omega
          clear hk hlt
          go_wp2_with fail
          clear hz3
          go_loopw [10] (fun i wr => ∃ k : Nat, k ≤ n ∧ i = .int .i64 k ∧ wr = ((w.alloc (.cells (hl H).toArray 22)).alloc (.cells (flags (winOk H) 13) 52)).alloc (.cells (flags (fun m => isIn ks k (mkKey m)) 56) 53)) (fun i _ => n - (intOf i).toNat)
          case atStart => exact ⟨0, Nat.zero_le _, rfl, rfl⟩
          case round =>
            obtain ⟨k, hk, rfl, rfl⟩ := hrel
            by_cases hlt : k < n
            · obtain ⟨kb, koff, rfl, hcells, hwf⟩ := HK.out (by omega)
              have hc0 := hcells k hlt
              have hblt : kb < w.heap.size := block_lt_of_cell hc0
              have hblt1 : kb < w.heap.size + 1 := by omega
              have hblt2 : kb < w.heap.size + 1 + 1 := by omega
              have hwk := hwf k hlt
              clear hcells hwf
              obtain ⟨x, hx⟩ : ∃ x, x = ks k := ⟨_, rfl⟩
              rw [← hx] at hc0 hwk
              have HX : Hid (x = ks k) := hx
              clear hx
              by_cases hx1 : x < 54000000000000
              · have HM : Hid (∀ m, m < 56 → isIn ks (k + 1) (mkKey m) = isIn ks k (mkKey m)) := isIn_miss HX.out (.inl hx1)
                go_wp2
                go_roundw
                case rel => exact ⟨k + 1, by omega, by go_num, by rw [flags_congr (fun j hj => HM.out j hj)]⟩
                case measure => simp [intOf]; omega
              by_cases hx2 : 57300000000000 < x
              · have HM : Hid (∀ m, m < 56 → isIn ks (k + 1) (mkKey m) = isIn ks k (mkKey m)) := isIn_miss HX.out (.inr (.inl hx2))
                go_wp2
                go_roundw
                case rel => exact ⟨k + 1, by omega, by go_num, by rw [flags_congr (fun j hj => HM.out j hj)]⟩
                case measure => simp [intOf]; omega
              by_cases hd : (x - 54000000000000) % 60000000000 = 0
              · have HF : Hid ((flags (fun m => isIn ks k (mkKey m)) 56).setIfInBounds ((x - 54000000000000) / 60000000000).toNat (.bool true) = flags (fun m => isIn ks (k + 1) (mkKey m)) 56) :=
                  flags_set _ _ _ _ (fun j _ => isIn_hit HX.out (by omega) hd j)
                obtain ⟨ov, hold⟩ : ∃ ov, (flags (fun m => isIn ks k (mkKey m)) 56)[((x - 54000000000000) / 60000000000).toNat]? = some ov := ⟨_, flags_get _ 56 _ (by omega)⟩
                have hdb : ((x - 54000000000000) % 60000000000 == 0) = true := by rw [beq_iff_eq]; exact hd
                clear hd
                go_wp2
                go_roundw
                case rel => exact ⟨k + 1, by omega, by go_num, by rw [HF.out]⟩
                case measure => simp [intOf]; omega
              · have HM : Hid (∀ m, m < 56 → isIn ks (k + 1) (mkKey m) = isIn ks k (mkKey m)) := isIn_miss HX.out (.inr (.inr hd))
                have hdb : ((x - 54000000000000) % 60000000000 == 0) = false := by rw [beq_eq_false_iff_ne]; exact hd
                clear hd
                go_wp2
                go_roundw
                case rel => exact ⟨k + 1, by omega, by go_num, by rw [flags_congr (fun j hj => HM.out j hj)]⟩
                case measure => simp [intOf]; omega
            · obtain rfl : k = n := by omega
              clear hk hlt
              go_wp2_with fail
              go_loop [12] (fun i => ∃ m : Nat, m ≤ 56 ∧ i = .int .i64 m ∧ ∀ j, j < m → isIn ks k (mkKey j) = true) (fun i => 56 - (intOf i).toNat)
              case atStart => exact ⟨0, Nat.zero_le _, rfl, fun j hj => by omega⟩
              case round =>
                obtain ⟨m, hm, rfl, hg⟩ := hrel
                have HG : Hid (∀ j, j < m → isIn ks k (mkKey j) = true) := hg
                clear hg
                by_cases hlt : m < 56
                · have hget := flags_get (fun m => isIn ks k (mkKey m)) 56 m hlt
                  cases hw : isIn ks k (mkKey m)
                  · rw [hw] at hget
                    have HW : Hid (isIn ks k (mkKey m) = false) := hw
                    clear hw
                    go_wp2
                    go_ret
                    exact ⟨by rw [cntB_min hlt HW.out]; rfl, (((Below.refl _ _).alloc (Nat.le_refl _) _).alloc (by simp) _).alloc (by simp; omega) _⟩
                  · rw [hw] at hget
                    have HW : Hid (isIn ks k (mkKey m) = true) := hw
                    clear hw
                    go_wp2
                    go_round
                    case rel => exact ⟨m + 1, by omega, by go_num, fun j hj => by
                      by_cases e : j = m
                      · rw [e]; exact HW.out
                      · exact HG.out j (by omega)⟩
                    case measure => simp [intOf]; omega
                · obtain rfl : m = 56 := by omega
                  go_wp2
                  go_ret
                  exact ⟨by rw [cntB_yes (by omega) HF.out HG.out]; rfl, (((Below.refl _ _).alloc (Nat.le_refl _) _).alloc (by simp) _).alloc (by simp; omega) _⟩
end Go.Proofs.Qxb6612294a
