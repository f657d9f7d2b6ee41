import Derived.Test.Qxb6612340aFmtRows
import Derived.WalkKit
import Derived.WalkSpells
import Derived.Stop.CallBack
import Derived.Stop.IfaceNil
import Derived.BigCall
import Derived.LoopN
import Derived.Deep.OwnRows
import Derived.Laws.BytesArg
namespace Go.Proofs
open Go.Extern.Stop Go.Stop Go.Extern

@[go_sem] theorem Tryf.call36 (args : Array Value) (w : World) : (callFunc 36 args).run Tryf.prog w = (FmtCalls.errorf #[9, 69] #[31] args).run Tryf.prog w :=
  run_callFunc_next Tryf.func36 (by kernel_rfl) (by kernel_rfl) (by kernel_rfl) args w
@[go_sem] theorem Tryf.guard (name : String) (w : World) : (FmtStop.guard name).run Tryf.prog w = .ok () w := by kernel_rfl
theorem Tryf.nextTurns : Extern.next FmtCalls.turnsRow = some (FmtCalls.begun #[] #[]) := by kernel_rfl
theorem Tryf.nextReturned : Extern.next FmtCalls.returnedRow = some (FmtCalls.returned #[] #[]) := by kernel_rfl

def Tryf.shape3 : List UInt8 := [5, 3, 0, 0, 0, 0, 0, 0, 0, 105, 110, 116]
def Tryf.shape9 : List UInt8 := [12, 6, 0, 0, 0, 0, 0, 0, 0, 115, 116, 114, 105, 110, 103]
@[go_sem] theorem Tryf.act3_100w (name : String) (x : Value) (w : World) : (FmtCalls.act name true 100 false (.iface 3 x)).run Tryf.prog w = .ok (.closed true) w := by kernel_rfl
@[go_sem] theorem Tryf.op3_100w (name : String) (x : Int) (w : World) : (FmtStop.operand name true 100 false (.iface 3 (.int .i64 x))).run Tryf.prog w = .ok (Tryf.shape3, Go.Extern.Stop.digits 8 (x % 2 ^ 64).toNat) w := by kernel_rfl
@[go_sem] theorem Tryf.act9_113w (name : String) (x : Value) (w : World) : (FmtCalls.act name true 113 false (.iface 9 x)).run Tryf.prog w = .ok (.closed true) w := by kernel_rfl
@[go_sem] theorem Tryf.op9_113w (name : String) (x : ByteArray) (w : World) : (FmtStop.operand name true 113 false (.iface 9 (.string x))).run Tryf.prog w = .ok (Tryf.shape9, FmtStop.pack x.data.toList) w := by kernel_rfl
@[go_sem] theorem Tryf.act59_118w (name : String) (x : Value) (w : World) : (FmtCalls.act name true 118 false (.iface 59 x)).run Tryf.prog w = .ok (.call false) w := by kernel_rfl
theorem Tryf.invokeString59 (x : Value) (w : World) : (invoke (.fn (.method "String") #[]) #[.iface 59 x]).run Tryf.prog w = .ok (.enter 39 #[x]) w := by kernel_rfl
@[go_sem] theorem Tryf.str59 (w : World) : (typeStr 59).run Tryf.prog w = .ok "time.Duration" w := by kernel_rfl
@[go_sem] theorem Tryf.ptr74 (w : World) : (FmtStop.ptrTo "errors.errorString").run Tryf.prog w = .ok 74 w := by kernel_rfl
@[go_sem] theorem Tryf.elem74 (w : World) : (elemOf 74).run Tryf.prog w = .ok 76 w := by kernel_rfl
@[go_sem] theorem Tryf.isError74' (w : World) : (FmtDoors.textMethod 74 "Error").run Tryf.prog w = .ok true w := by kernel_rfl

end Go.Proofs

namespace Go.Proofs.Qxb6612340aFmt
open Go.RowKit Go.Extern.Stop Go.Stop Go.Extern

/-- The error is there, and nothing that lay there before was touched. -/
def Err (w : World) (e : Ending) (w' : World) : Prop := ∃ b, e = .returned (.iface 74 (.pointer (some ⟨b, 0, none⟩))) ∧ Below w.heap.size w w'

set_option maxHeartbeats 1000000 in
theorem errorf_int (F : Interp) (f : ByteArray) (n : Int) (blk : Nat) (w : World) (hF : F.answers w.tape)
    (hc : w.cell? ⟨blk, 0, none⟩ = some (.iface 3 (.int .i64 n)))
    (_h1 : FmtStop.printed? f 1 = some [(0, 100, false)]) (h2 : ∀ w, (FmtDoors.printed f 1).run Tryf.prog w = .ok [(0, 100, false)] w) :
    Calls Tryf.prog 32 #[.string f, .slice (some ⟨blk, 0, none⟩) 1 1] w (Err w) := by
  have hF' := answers_open hF
  go_enter Tryf.func32, Tryf.ntmps32
  go_wp2
  apply rows_value Tryf.nextTurns
  case hr =>
    go_simp
    exact ⟨rfl, rfl⟩
  case h =>
    go_wp2
    go_ret
    exact ⟨_, rfl, ((Below.refl _ _).alloc (Nat.le_refl _) _).drew⟩

set_option maxHeartbeats 1000000 in
theorem errorf_two (F : Interp) (f a b : ByteArray) (blk : Nat) (w : World) (hF : F.answers w.tape)
    (hc0 : w.cell? ⟨blk, 0, none⟩ = some (.iface 9 (.string a))) (hc1 : w.cell? ⟨blk, 1, none⟩ = some (.iface 9 (.string b)))
    (_h1 : FmtStop.printed? f 2 = some [(0, 113, false), (1, 113, false)]) (h2 : ∀ w, (FmtDoors.printed f 2).run Tryf.prog w = .ok [(0, 113, false), (1, 113, false)] w) :
    Calls Tryf.prog 32 #[.string f, .slice (some ⟨blk, 0, none⟩) 2 2] w (Err w) := by
  have hF' := answers_open hF
  go_enter Tryf.func32, Tryf.ntmps32
  go_wp2
  apply rows_value Tryf.nextTurns
  case hr =>
    go_simp
    exact ⟨rfl, rfl⟩
  case h =>
    go_wp2
    go_ret
    exact ⟨_, rfl, ((Below.refl _ _).alloc (Nat.le_refl _) _).drew⟩

set_option maxHeartbeats 1000000 in
theorem frac44 (a : Addr) (n c : Nat) (v : Int) (w : World) :
    Calls Tryf.prog 44 #[.slice (some a) n c, .int .u64 v, .int .i64 0] w fun e w' => e = .returned (.tuple #[.int .i64 n, .int .u64 v]) ∧ w' = w := by
  go_enter Tryf.func44, Tryf.ntmps44
  go_wp2
  refine wp_loop_rounds 1 ?_
  rw [rounds_succ]
  go_wp2
  exact bodyPost_ret (v := .tuple #[.int .i64 n, .int .u64 v]) (by simp [results, Tryf.results44, go_sem]) rfl ⟨rfl, rfl⟩

set_option maxHeartbeats 1000000 in
theorem int45 (w : World) :
    Calls Tryf.prog 45 #[.slice (some ⟨w.heap.size, 0, none⟩) 30 32, .int .u64 1] (w.alloc (.cells #[.int .u8 0, .int .u8 0, .int .u8 0, .int .u8 0, .int .u8 0, .int .u8 0, .int .u8 0, .int .u8 0, .int .u8 0, .int .u8 0, .int .u8 0, .int .u8 0, .int .u8 0, .int .u8 0, .int .u8 0, .int .u8 0, .int .u8 0, .int .u8 0, .int .u8 0, .int .u8 0, .int .u8 0, .int .u8 0, .int .u8 0, .int .u8 0, .int .u8 0, .int .u8 0, .int .u8 0, .int .u8 0, .int .u8 0, .int .u8 0, .int .u8 110, .int .u8 115] 77))
      fun e w' => e = .returned (.int .i64 29) ∧ w' = w.alloc (.cells #[.int .u8 0, .int .u8 0, .int .u8 0, .int .u8 0, .int .u8 0, .int .u8 0, .int .u8 0, .int .u8 0, .int .u8 0, .int .u8 0, .int .u8 0, .int .u8 0, .int .u8 0, .int .u8 0, .int .u8 0, .int .u8 0, .int .u8 0, .int .u8 0, .int .u8 0, .int .u8 0, .int .u8 0, .int .u8 0, .int .u8 0, .int .u8 0, .int .u8 0, .int .u8 0, .int .u8 0, .int .u8 0, .int .u8 0, .int .u8 49, .int .u8 110, .int .u8 115] 77) := by
  go_enter Tryf.func45, Tryf.ntmps45
  go_wp2
  refine wp_loop_rounds 2 ?_
  rw [rounds_succ]
  go_wp2
  rw [rounds_succ]
  go_wp2
  go_ret
  exact ⟨rfl, rfl⟩

set_option maxHeartbeats 1000000 in
theorem format42 (w : World) :
    Calls Tryf.prog 42 #[.int .i64 (-1), .pointer (some ⟨w.heap.size, 0, none⟩)] (w.alloc (.cells #[.int .u8 0, .int .u8 0, .int .u8 0, .int .u8 0, .int .u8 0, .int .u8 0, .int .u8 0, .int .u8 0, .int .u8 0, .int .u8 0, .int .u8 0, .int .u8 0, .int .u8 0, .int .u8 0, .int .u8 0, .int .u8 0, .int .u8 0, .int .u8 0, .int .u8 0, .int .u8 0, .int .u8 0, .int .u8 0, .int .u8 0, .int .u8 0, .int .u8 0, .int .u8 0, .int .u8 0, .int .u8 0, .int .u8 0, .int .u8 0, .int .u8 0, .int .u8 0] 77))
      fun e w' => e = .returned (.int .i64 28) ∧ w' = w.alloc (.cells #[.int .u8 0, .int .u8 0, .int .u8 0, .int .u8 0, .int .u8 0, .int .u8 0, .int .u8 0, .int .u8 0, .int .u8 0, .int .u8 0, .int .u8 0, .int .u8 0, .int .u8 0, .int .u8 0, .int .u8 0, .int .u8 0, .int .u8 0, .int .u8 0, .int .u8 0, .int .u8 0, .int .u8 0, .int .u8 0, .int .u8 0, .int .u8 0, .int .u8 0, .int .u8 0, .int .u8 0, .int .u8 0, .int .u8 45, .int .u8 49, .int .u8 110, .int .u8 115] 77) := by
  go_enter Tryf.func42, Tryf.ntmps42
  go_wp2_with fail
  refine (frac44 _ _ _ _ _).mono ?_
  rintro e w' ⟨rfl, rfl⟩
  go_wp2_with fail
  refine (int45 w).mono ?_
  rintro e w' ⟨rfl, rfl⟩
  go_wp2
  go_ret
  exact ⟨rfl, rfl⟩

set_option maxRecDepth 100000 in
set_option maxHeartbeats 1000000 in
theorem string39 (w : World) :
    Calls Tryf.prog 39 #[.int .i64 (-1)] w fun e w' => (∃ s, e = .returned (.string s)) ∧ Below w.heap.size w w' := by
  go_enter Tryf.func39, Tryf.ntmps39
  go_wp2_with fail
  refine (format42 w).mono ?_
  rintro e w' ⟨rfl, rfl⟩
  go_wp2
  rw [run_convert_bytes_arg (P := Tryf.prog) _ 22 5 Tryf.underlying22 Tryf.underlying5 w.heap.size 28 4 4 [45, 49, 110, 115] rfl ?hcell 9 Tryf.underlying9]
  case hcell =>
    intro i hi
    rw [World.cell?_alloc_at]
    obtain rfl | rfl | rfl | rfl : i = 0 ∨ i = 1 ∨ i = 2 ∨ i = 3 := by omega
    all_goals rfl
  simp only [Result.andThen]
  rw [Oper.upon_value]
  go_wp2
  go_ret
  exact ⟨⟨_, rfl⟩, (Below.refl _ _).alloc (Nat.le_refl _) _⟩

set_option maxHeartbeats 1000000 in
theorem errorf_dur (F : Interp) (blk : Nat) (w : World) (hF : F.answers w.tape)
    (hc : w.cell? ⟨blk, 0, none⟩ = some (.iface 59 (.int .i64 (-1)))) (f : ByteArray)
    (h2 : ∀ w, (FmtDoors.printed f 1).run Tryf.prog w = .ok [(0, 118, false)] w) :
    Calls Tryf.prog 32 #[.string f, .slice (some ⟨blk, 0, none⟩) 1 1] w (Err w) := by
  have hF' := answers_open hF
  have hb : blk < w.heap.size := World.block_lt_of_cell? _ _ hc
  go_enter Tryf.func32, Tryf.ntmps32
  go_wp2
  apply rows_call Tryf.nextTurns
  case hr =>
    go_simp
    exact ⟨⟨rfl, rfl, rfl⟩, rfl⟩
  case hi => exact Tryf.invokeString59 _ _
  case hc =>
    refine (string39 _).mono fun e w₃ ⟨⟨s, he⟩, hx⟩ => ?_
    subst he
    have hF3 : ∀ i name reading k range, w₃.tape i (.extern (word name reading k) range) = F name reading k := by rw [hx.tape]; exact hF'
    have hc3 : w₃.cell? ⟨blk, 0, none⟩ = some (.iface 59 (.int .i64 (-1))) := by rw [hx.cell hb]; exact hc
    apply rows_value Tryf.nextReturned
    case hr =>
      go_simp
      exact ⟨rfl, rfl⟩
    case h =>
      go_wp2
      go_ret
      exact ⟨_, rfl, (hx.alloc hx.size _).drew⟩

/-! ### cuts and fills -/
theorem cut22 (s : ByteArray) (n : Nat) (w : World) :
    Calls Tryf.prog 22 #[.string s, .int .i64 n] w fun e w' => e = .returned (.string (if n < s.size then s.extract 0 n else s)) ∧ w' = w := by
  by_cases h : n < s.size
  · rw [if_pos h]
    go_enter Tryf.func22, Tryf.ntmps22
    go_wp2
    go_ret
    exact ⟨rfl, rfl⟩
  · rw [if_neg h]
    go_enter Tryf.func22, Tryf.ntmps22
    go_wp2
    go_ret
    exact ⟨rfl, rfl⟩
theorem cut23 (a : Option Addr) (l c n : Nat) (hlc : l ≤ c) (w : World) :
    Calls Tryf.prog 23 #[.slice a l c, .int .i64 n] w fun e w' => (∃ a' l' c', e = .returned (.slice a' l' c') ∧ l' ≤ n ∧ l' ≤ c') ∧ w' = w := by
  by_cases h : n < l
  · go_enter Tryf.func23, Tryf.ntmps23
    go_wp2
    go_ret
    exact ⟨⟨_, _, _, rfl, Nat.le_refl _, by omega⟩, rfl⟩
  · go_enter Tryf.func23, Tryf.ntmps23
    go_wp2
    go_ret
    exact ⟨⟨_, _, _, rfl, by omega, hlc⟩, rfl⟩
def pfx (s p : ByteArray) : Bool := decide (p.size ≤ s.size) && ((s.extract 0 p.size).toList == p.toList)
theorem pfx43 (s p : ByteArray) (w : World) :
    Calls Tryf.prog 43 #[.string s, .string p] w fun e w' => e = .returned (.bool (pfx s p)) ∧ w' = w := by
  by_cases h : p.size ≤ s.size
  · go_enter Tryf.func43, Tryf.ntmps43
    go_wp2
    go_ret
    exact ⟨by simp [pfx, h], rfl⟩
  · go_enter Tryf.func43, Tryf.ntmps43
    go_wp2
    go_ret
    exact ⟨by simp [pfx, h], rfl⟩
theorem pfx40 (s p : ByteArray) (w : World) :
    Calls Tryf.prog 40 #[.string s, .string p] w fun e w' => e = .returned (.bool (pfx s p)) ∧ w' = w := by
  go_enter Tryf.func40, Tryf.ntmps40
  go_wp2_with fail
  refine (pfx43 s p w).mono ?_
  rintro e w' ⟨rfl, rfl⟩
  go_wp2
  go_ret
  exact ⟨rfl, rfl⟩

def fillTo (k n : Nat) : Array Value := ((List.range n).map fun j => Value.int .u8 (if j < k then 97 else 0)).toArray
theorem fillTo_size (k n : Nat) : (fillTo k n).size = n := by simp [fillTo]
theorem fillTo_get (k n j : Nat) (h : j < n) : (fillTo k n)[j]? = some (.int .u8 (if j < k then 97 else 0)) := by simp [fillTo, h]
theorem fillTo_ext {c : Array Value} {k n : Nat} (hs : c.size = n) (h : ∀ j, j < n → c[j]? = some (.int .u8 (if j < k then 97 else 0))) : c = fillTo k n := by
  apply Array.ext_getElem?
  intro j
  by_cases hj : j < n
  · rw [h j hj, fillTo_get k n j hj]
  · have h1 : c[j]? = none := by simp; omega
    have h2 : (fillTo k n)[j]? = none := by simp [fillTo_size]; omega
    rw [h1, h2]
theorem fillTo_step (k n : Nat) (h : k < n) : (fillTo k n).setIfInBounds k (.int .u8 97) = fillTo (k + 1) n := by
  refine fillTo_ext (by simp [fillTo_size]) (fun j hj => ?_)
  rw [Array.getElem?_setIfInBounds]
  by_cases e : k = j
  · subst e; simp [fillTo_size, h]
  · rw [if_neg e, fillTo_get k n j hj]
    congr 2
    by_cases h1 : j < k
    · rw [if_pos h1, if_pos (by omega)]
    · rw [if_neg h1, if_neg (by omega)]
theorem Tryf.info5 : (Tryf.prog.info? 5).map (fun i => (i.zero, i.size, i.bytes)) = some (some (.int .u8 0), 1, 1) := by kernel_rfl
theorem run_mk (n : Nat) (hn : n ≤ 1000000) (w : World) : (Instr.makeSlice 22 (.int .i64 (n : Int)) (.int .i64 (n : Int))).run Tryf.prog w = .ok (.slice (some ⟨w.heap.size, 0, none⟩) n n) (w.alloc (.cells (fillTo 0 n) 5)) := by
  have h := run_make_row' (P := Tryf.prog) 22 5 (.int .u8 0) 1 Tryf.underlying22 Tryf.info5 rfl .i64 .i64 n (by omega) (by omega) w
  rw [h, fillTo_ext (c := madeCells #[.int .u8 0] n) (k := 0) (n := n) (size_madeCells _ _) (fun j hj => by simp [madeCells, hj, Nat.mod_one])]

set_option maxHeartbeats 1000000 in
theorem fill26 (n : Nat) (hn : n ≤ 1000000) (w : World) :
    Calls Tryf.prog 26 #[.int .i64 n] w fun e w' => e = .returned (.slice (some ⟨w.heap.size, 0, none⟩) n n) ∧ w' = w.alloc (.cells (fillTo n n) 5) := by
  have hmk := run_mk n hn
  go_enter Tryf.func26, Tryf.ntmps26
  go_wp2_with fail
  clear hmk
  go_loopw [4] (fun t wr => ∃ k : Nat, k ≤ n ∧ t = .int .i64 k ∧ wr = w.alloc (.cells (fillTo k n) 5)) (fun t _ => n - (intOf t).toNat)
  case atStart => exact ⟨0, Nat.zero_le _, rfl, rfl⟩
  case round =>
    obtain ⟨k, hk, rfl, rfl⟩ := hrel
    by_cases hlt : k < n
    · have HE : Hid ((fillTo k n).setIfInBounds k (.int .u8 97) = fillTo (k + 1) n) := fillTo_step k n hlt
      obtain ⟨ov, hold⟩ : ∃ ov, (fillTo k n)[k]? = some ov := ⟨_, fillTo_get _ n _ (by omega)⟩
      go_wp2
      go_roundw
      case rel => exact ⟨k + 1, by omega, by go_num, by rw [HE.out]⟩
      case measure => simp [intOf]; omega
    · obtain rfl : k = n := by omega
      clear hk hlt
      go_wp2
      go_ret
      exact ⟨rfl, rfl⟩

set_option maxRecDepth 100000 in
set_option maxHeartbeats 1000000 in
theorem fill25 (n : Nat) (hn : n ≤ 1000000) (w : World) :
    Calls Tryf.prog 25 #[.int .i64 n] w fun e w' => (∃ s : ByteArray, e = .returned (.string s) ∧ s.size = n) ∧ Below w.heap.size w w' := by
  go_enter Tryf.func25, Tryf.ntmps25
  go_wp2_with fail
  refine (fill26 n hn w).mono ?_
  rintro e w' ⟨rfl, rfl⟩
  go_wp2
  rw [run_convert_bytes_arg (P := Tryf.prog) _ 22 5 Tryf.underlying22 Tryf.underlying5 w.heap.size 0 n n (List.replicate n 97) (by simp) ?hcell 9 Tryf.underlying9]
  case hcell =>
    intro i hi
    rw [World.cell?_alloc_at]
    · simp [fillTo, hi]
    · rfl
  simp only [Result.andThen]
  rw [Oper.upon_value]
  go_wp2
  go_ret
  exact ⟨⟨_, rfl, by rw [strOfNums_size]; simp⟩, (Below.refl _ _).alloc (Nat.le_refl _) _⟩
end Go.Proofs.Qxb6612340aFmt
