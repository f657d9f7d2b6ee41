import Derived.Test.Qxb6612305aSmall
import Derived.Maps.OwnSet
import Derived.Deep.RegionHeld3
namespace Go.Proofs.Qxb6612305a
open Go.RowKit

/-- THE MAPS' ELEMENTS ARE CARRIED AS THEY ARE: the datum holds the value itself. -/
def valElem : Value → Option (DataW Value × List MemPlace) := fun v => some (.held v, [])
theorem law9 : Maps.Keyed Try.prog 9 := Maps.string_keyed Try.underlying9
def key (s : ByteArray) : Lit := .string s.data.toList
theorem keyOf9 {s : ByteArray} (h : s.size ≤ maxLen) : keyOf Try.prog 9 (.string s) = some (key s) := Go.WideMaps.keyOf_string_mk Try.underlying9 h

def assetV (s : ByteArray) (d : Int) : Value := .agg #[.string s, .int .i64 d]
/-- book.Loan{ID: s, State: st} -/
def loanV (s st : ByteArray) : Value := .agg #[.string s, .string ⟨#[]⟩, .int .i64 0, .int .i64 0, .int .i64 0, .pointer none, .pointer none, .pointer none, .int .i64 0, .int .i64 0, .int .i64 0, .int .i64 0, .pointer none, .pointer none, .pointer none, .string st, .int .i64 0, .pointer none, .pointer none, .pointer none, .pointer none, .int .i64 0, .pointer none, .pointer none, .pointer none, .pointer none, .pointer none, .int .i64 0, .int .i64 0, .pointer none, .pointer none, .pointer none, .pointer none, .pointer none]
/-- the loans behind k rounds -/
def dL (st : ByteArray) (im : Nat → ByteArray) : Nat → DataW Value
  | 0 => .map []
  | k + 1 => (dL st im k).put (key (im k)) (.held (loanV (im k) st))
def openS : ByteArray := ⟨#[111, 112, 101, 110]⟩
def defaultedS : ByteArray := ⟨#[100, 101, 102, 97, 117, 108, 116, 101, 100]⟩
/-- decs[i], or 0 -/
def decAt (de : Nat → Int) (nd k : Nat) : Int := if k < nd then de k else 0
/-- the assets behind k rounds -/
def dA (nm : Nat → ByteArray) (de : Nat → Int) (nd : Nat) : Nat → DataW Value
  | 0 => .map []
  | k + 1 => (dA nm de nd k).put (key (nm k)) (.held (assetV (nm k) (decAt de nd k)))

theorem run_makeMap27 (x : Int) (w : World) : (Instr.makeMap 27 (some (.int .i64 x))).run Try.prog w = .ok (.map (some w.heap.size)) (w.alloc (.map #[] 0)) := by
  simp [Instr.makeMap, run_underlying Try.underlying27, asInt, Result.andThen]
  rfl
theorem run_makeMap28 (x : Int) (w : World) : (Instr.makeMap 28 (some (.int .i64 x))).run Try.prog w = .ok (.map (some w.heap.size)) (w.alloc (.map #[] 0)) := by
  simp [Instr.makeMap, run_underlying Try.underlying28, asInt, Result.andThen]
  rfl

set_option maxHeartbeats 1000000 in
theorem maps8_any (a d i : Option Addr) (n nc nd dc ni ic : Nat) (nm im : Nat → ByteArray) (de : Nat → Int) (hm : n ≤ 4096) (hdm : nd ≤ 4096) (him : ni ≤ 4096)
    (hns : ∀ j, j < n → (nm j).size ≤ maxLen) (his : ∀ j, j < ni → (im j).size ≤ maxLen) (w : World) (hn : Strs w a n nm) (hd : Ints w d nd de) (hi : Strs w i ni im) :
    Calls Try.prog 8 #[.slice a n nc, .slice d nd dc, .slice i ni ic] w fun e w' => ∃ L, e = .returned (.tuple #[.map (some w.heap.size), .map (some L)]) ∧ w.heap.size < L ∧
      w'.ownsMap Try.prog 9 valElem w.heap.size n (dA nm de nd n) ∧ w'.ownsMap Try.prog 9 valElem L ni (dL openS im ni) ∧ Below w.heap.size w w' := by
  have HN : Hid (Strs w a n nm) := hn
  have HD : Hid (Ints w d nd de) := hd
  have HI : Hid (Strs w i ni im) := hi
  have HNS : Hid (∀ j, j < n → (nm j).size ≤ maxLen) := hns
  have HIS : Hid (∀ j, j < ni → (im j).size ≤ maxLen) := his
  clear hn hd hi hns his
  have hmm := run_makeMap27
  go_enter Try.func8, Try.ntmps8
  go_wp2_with fail
  clear hmm
  go_loopw [9] (fun t wr => ∃ k : Nat, k ≤ n ∧ t = .int .i64 k ∧ wr.ownsMap Try.prog 9 valElem w.heap.size k (dA nm de nd k) ∧ Below w.heap.size w wr) (fun t _ => n - (intOf t).toNat)
  case atStart => exact ⟨0, Nat.zero_le _, rfl, World.ownsMap_made _ _ _ _, (Below.refl _ _).alloc (Nat.le_refl _) _⟩
  case round =>
    obtain ⟨k, hk, rfl, hown, hbel⟩ := hrel
    have HO : Hid (wr.ownsMap Try.prog 9 valElem w.heap.size k (dA nm de nd k)) := hown
    have HB : Hid (Below w.heap.size w wr) := hbel
    clear hown hbel
    by_cases hlt : k < n
    · obtain ⟨b, off, rfl, hc⟩ := HN.out (by omega)
      have hck := hc k hlt
      have hblt : b < w.heap.size := block_lt_of_cell hck
      rw [← HB.out.cell (p := ⟨b, off + k, none⟩) hblt] at hck
      have hsz := HNS.out k hlt
      obtain ⟨s, hs⟩ : ∃ s, s = nm k := ⟨_, rfl⟩
      rw [← hs] at hck hsz
      have HSe : Hid (s = nm k) := hs
      clear hc hs
      by_cases hkd : k < nd
      · obtain ⟨b2, off2, rfl, hc2⟩ := HD.out (by omega)
        have hck2 := hc2 k hkd
        have hblt2 : b2 < w.heap.size := block_lt_of_cell hck2
        rw [← HB.out.cell (p := ⟨b2, off2 + k, none⟩) hblt2] at hck2
        clear hc2
        obtain ⟨w1, hrun, hown1, hgrow1⟩ := HO.out.drew.update law9 Try.underlying27 (by unfold maxLen; omega) (keyOf9 hsz) (val := assetV s (de k)) (d := .held (assetV s (de k))) (ps := []) rfl
        have hrun' : (Instr.mapUpdate 27 (.map (some w.heap.size)) (.string s) (.agg #[.string s, .int .i64 (de k)])).run Try.prog wr.drew = .ok () w1 := hrun
        have hck1 : w1.cell? ⟨b, off + k, none⟩ = some (.string s) := hgrow1.cell (a := ⟨b, off + k, none⟩) hck (by simp; omega)
        have HO1 : Hid (w1.ownsMap Try.prog 9 valElem w.heap.size (k + 1) (dA nm de nd (k + 1))) := by
          have e : dA nm de nd (k + 1) = (dA nm de nd k).put (key s) (.held (assetV s (de k))) := by rw [HSe.out]; simp [dA, decAt, hkd]
          rw [e]; exact hown1
        have HB1 : Hid (Below w.heap.size w w1) := (HB.out.drew).grown hgrow1 HB.out.size (fun j hj => by cases hj; exact Nat.le_refl _)
        clear hrun hown1 hgrow1
        go_wp2_with fail
        go_region_held3 (fun w' => w'.cell? ⟨b, off + k, none⟩ = some (.string s)) (simp [*]) (fail)
        go_wp2
        go_roundw
        case rel => exact ⟨k + 1, by omega, by go_num, HO1.out, HB1.out⟩
        case measure => simp [intOf]; omega
      · obtain ⟨w1, hrun, hown1, hgrow1⟩ := HO.out.drew.update law9 Try.underlying27 (by unfold maxLen; omega) (keyOf9 hsz) (val := assetV s 0) (d := .held (assetV s 0)) (ps := []) rfl
        have hrun' : (Instr.mapUpdate 27 (.map (some w.heap.size)) (.string s) (.agg #[.string s, .int .i64 0])).run Try.prog wr.drew = .ok () w1 := hrun
        have hck1 : w1.cell? ⟨b, off + k, none⟩ = some (.string s) := hgrow1.cell (a := ⟨b, off + k, none⟩) hck (by simp; omega)
        have HO1 : Hid (w1.ownsMap Try.prog 9 valElem w.heap.size (k + 1) (dA nm de nd (k + 1))) := by
          have e : dA nm de nd (k + 1) = (dA nm de nd k).put (key s) (.held (assetV s 0)) := by rw [HSe.out]; simp [dA, decAt, hkd]
          rw [e]; exact hown1
        have HB1 : Hid (Below w.heap.size w w1) := (HB.out.drew).grown hgrow1 HB.out.size (fun j hj => by cases hj; exact Nat.le_refl _)
        clear hrun hown1 hgrow1
        go_wp2_with fail
        go_region_held3 (fun w' => w'.cell? ⟨b, off + k, none⟩ = some (.string s)) (simp [*]) (fail)
        go_wp2
        go_roundw
        case rel => exact ⟨k + 1, by omega, by go_num, HO1.out, HB1.out⟩
        case measure => simp [intOf]; omega
    · obtain rfl : k = n := by omega
      have hmm := run_makeMap28
      go_wp2_with fail
      clear hmm
      obtain ⟨L, hL⟩ : ∃ L, wr.heap.size = L := ⟨_, rfl⟩
      have hAL : w.heap.size < L := hL ▸ HO.out.lt
      rw [hL]
      have HOA : Hid ((wr.alloc (.map #[] 0)).ownsMap Try.prog 9 valElem w.heap.size k (dA nm de nd k)) := HO.out.alloc _
      have HOL : Hid ((wr.alloc (.map #[] 0)).ownsMap Try.prog 9 valElem L 0 (dL openS im 0)) := hL ▸ World.ownsMap_made _ _ _ _
      have HB0 : Hid (Below w.heap.size w (wr.alloc (.map #[] 0))) := HB.out.alloc HB.out.size _
      clear hL
      go_loopw [12] (fun t wr => ∃ m : Nat, m ≤ ni ∧ t = .int .i64 m ∧ wr.ownsMap Try.prog 9 valElem L m (dL openS im m) ∧ wr.ownsMap Try.prog 9 valElem w.heap.size k (dA nm de nd k) ∧ Below w.heap.size w wr) (fun t _ => ni - (intOf t).toNat)
      case atStart => exact ⟨0, Nat.zero_le _, rfl, HOL.out, HOA.out, HB0.out⟩
      case round =>
        clear HOA HOL HB0 HO HB
        obtain ⟨m, hm2, rfl, hown, hownA, hbel⟩ := hrel
        have HO : Hid (wr.ownsMap Try.prog 9 valElem L m (dL openS im m)) := hown
        have HA : Hid (wr.ownsMap Try.prog 9 valElem w.heap.size k (dA nm de nd k)) := hownA
        have HB : Hid (Below w.heap.size w wr) := hbel
        clear hown hownA hbel
        by_cases hlt2 : m < ni
        · obtain ⟨b, off, rfl, hc⟩ := HI.out (by omega)
          have hck := hc m hlt2
          have hblt : b < w.heap.size := block_lt_of_cell hck
          rw [← HB.out.cell (p := ⟨b, off + m, none⟩) hblt] at hck
          have hsz := HIS.out m hlt2
          obtain ⟨s, hs⟩ : ∃ s, s = im m := ⟨_, rfl⟩
          rw [← hs] at hck hsz
          have HSe : Hid (s = im m) := hs
          clear hc hs
          obtain ⟨w1, hrun, hown1, hgrow1⟩ := HO.out.drew.update law9 Try.underlying28 (by unfold maxLen; omega) (keyOf9 hsz) (val := loanV s openS) (d := .held (loanV s openS)) (ps := []) rfl
          have hrun' : (Instr.mapUpdate 28 (.map (some L)) (.string s) (.agg #[.string s, .string ⟨#[]⟩, .int .i64 0, .int .i64 0, .int .i64 0, .pointer none, .pointer none, .pointer none, .int .i64 0, .int .i64 0, .int .i64 0, .int .i64 0, .pointer none, .pointer none, .pointer none, .string ⟨#[111, 112, 101, 110]⟩, .int .i64 0, .pointer none, .pointer none, .pointer none, .pointer none, .int .i64 0, .pointer none, .pointer none, .pointer none, .pointer none, .pointer none, .int .i64 0, .int .i64 0, .pointer none, .pointer none, .pointer none, .pointer none, .pointer none])).run Try.prog wr.drew = .ok () w1 := hrun
          have hck1 : w1.cell? ⟨b, off + m, none⟩ = some (.string s) := hgrow1.cell (a := ⟨b, off + m, none⟩) hck (by simp; omega)
          have HO1 : Hid (w1.ownsMap Try.prog 9 valElem L (m + 1) (dL openS im (m + 1))) := by
            have e : dL openS im (m + 1) = (dL openS im m).put (key s) (.held (loanV s openS)) := by rw [HSe.out]; rfl
            rw [e]; exact hown1
          have HA1 : Hid (w1.ownsMap Try.prog 9 valElem w.heap.size k (dA nm de nd k)) := HA.out.drew.kept hgrow1 (by simp; omega)
          have HB1 : Hid (Below w.heap.size w w1) := (HB.out.drew).grown hgrow1 HB.out.size (fun j hj => by cases hj; omega)
          clear hrun hown1 hgrow1
          go_wp2_with fail
          go_region_held3 (fun w' => w'.cell? ⟨b, off + m, none⟩ = some (.string s)) (simp [*]) (fail)
          go_wp2
          go_roundw
          case rel => exact ⟨m + 1, by omega, by go_num, HO1.out, HA1.out, HB1.out⟩
          case measure => simp [intOf]; omega
        · obtain rfl : m = ni := by omega
          go_wp2
          go_ret2
          exact ⟨_, rfl, hAL, HA.out, HO.out, HB.out⟩
end Go.Proofs.Qxb6612305a
