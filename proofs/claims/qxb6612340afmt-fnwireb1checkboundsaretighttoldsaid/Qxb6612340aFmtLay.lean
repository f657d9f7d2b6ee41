import Derived.Test.Qxb6612340aFmtLeaf
import Derived.Deep.MidRow
import Derived.Laws.Rows
import Derived.Laws.Tables
namespace Go.Proofs.Qxb6612340aFmt
open Go.RowKit Go.Extern.Stop Go.Stop Go.Extern

structure Sl where
  a : Option Addr
  l : Nat
  c : Nat
structure Req where
  node : Int
  obj : ByteArray
  vv : Sl
  vp : Sl
  vc : Sl
  vf : Sl
  clk : Bool
  skew : Int
  sv : Sl
  depth : Int
  hv : Sl
  pa : Sl
  pre : ByteArray
  st : ByteArray
  lim : Int
/-- the 46 cells of a request -/
def lay (n : Nat → Int) (b : Nat → Bool) (r : Req) : Array Value :=
  #[.int .u8 (n 0), .int .i64 r.node, .string r.obj, .int .u64 (n 3), .int .u64 (n 4), .slice r.vv.a r.vv.l r.vv.c, .slice r.vp.a r.vp.l r.vp.c, .int .u64 (n 7), .slice r.vc.a r.vc.l r.vc.c, .slice r.vf.a r.vf.l r.vf.c, .bool (b 10), .bool r.clk, .int .i64 r.skew, .int .u64 (n 13), .int .u64 (n 14), .slice r.sv.a r.sv.l r.sv.c, .int .u64 (n 16), .int .u64 (n 17), .int .u8 (n 18), .int .u8 (n 19), .int .u8 (n 20), .int .u8 (n 21), .int .u8 (n 22), .int .u8 (n 23), .int .u8 (n 24), .int .u8 (n 25), .int .u8 (n 26), .int .u8 (n 27), .int .u8 (n 28), .int .u8 (n 29), .int .u8 (n 30), .int .u8 (n 31), .int .u8 (n 32), .int .u8 (n 33), .int .i64 r.depth, .bool (b 35), .bool (b 36), .bool (b 37), .int .u64 (n 38), .int .u64 (n 39), .slice r.hv.a r.hv.l r.hv.c, .slice r.pa.a r.pa.l r.pa.c, .string r.pre, .string r.st, .bool (b 44), .int .i64 r.lim]
theorem lay_size (n : Nat → Int) (b : Nat → Bool) (r : Req) : (lay n b r).size = 46 := rfl
theorem lay_one (n : Nat → Int) (b : Nat → Bool) (r : Req) : (lay n b r).all (·.oneCell') = true := by
  simp [lay, Value.oneCell']

/-- what check asks -/
structure Ok (r : Req) : Prop where
  node0 : 0 ≤ r.node
  node1 : r.node ≤ 255
  obj : r.obj.size ≤ 255
  vv : r.vv.l ≤ 48
  sv : r.sv.l ≤ 48
  hv : r.hv.l ≤ 48
  dep0 : 0 ≤ r.depth
  dep1 : r.depth ≤ 768
  skew : r.clk = true → 0 ≤ r.skew
  vp : r.vp.l ≤ 255
  pa : r.pa.l ≤ 255
  vc : r.vc.l ≤ 8160
  st : r.st.size ≤ 255
  pre : pfx r.st r.pre = true
  lim0 : 0 ≤ r.lim
  lim1 : r.lim ≤ 1000

theorem pr_node (w : World) : (FmtDoors.printed ⟨#[110, 111, 100, 101, 32, 105, 100, 32, 37, 100, 32, 111, 117, 116, 32, 111, 102, 32, 114, 97, 110, 103, 101]⟩ 1).run Tryf.prog w = .ok [(0, 100, false)] w := by kernel_rfl
theorem pq_node : FmtStop.printed? ⟨#[110, 111, 100, 101, 32, 105, 100, 32, 37, 100, 32, 111, 117, 116, 32, 111, 102, 32, 114, 97, 110, 103, 101]⟩ 1 = some [(0, 100, false)] := by kernel_rfl
theorem pr_obj (w : World) : (FmtDoors.printed ⟨#[111, 98, 106, 101, 99, 116, 32, 110, 97, 109, 101, 32, 111, 102, 32, 37, 100, 32, 98, 121, 116, 101, 115, 32, 105, 115, 32, 116, 111, 111, 32, 108, 111, 110, 103]⟩ 1).run Tryf.prog w = .ok [(0, 100, false)] w := by kernel_rfl
theorem pq_obj : FmtStop.printed? ⟨#[111, 98, 106, 101, 99, 116, 32, 110, 97, 109, 101, 32, 111, 102, 32, 37, 100, 32, 98, 121, 116, 101, 115, 32, 105, 115, 32, 116, 111, 111, 32, 108, 111, 110, 103]⟩ 1 = some [(0, 100, false)] := by kernel_rfl
theorem pr_ver (w : World) : (FmtDoors.printed ⟨#[116, 105, 109, 101, 115, 116, 97, 109, 112, 32, 118, 101, 114, 105, 102, 105, 101, 114, 32, 108, 111, 110, 103, 101, 114, 32, 116, 104, 97, 110, 32, 37, 100, 32, 98, 121, 116, 101, 115]⟩ 1).run Tryf.prog w = .ok [(0, 100, false)] w := by kernel_rfl
theorem pq_ver : FmtStop.printed? ⟨#[116, 105, 109, 101, 115, 116, 97, 109, 112, 32, 118, 101, 114, 105, 102, 105, 101, 114, 32, 108, 111, 110, 103, 101, 114, 32, 116, 104, 97, 110, 32, 37, 100, 32, 98, 121, 116, 101, 115]⟩ 1 = some [(0, 100, false)] := by kernel_rfl
theorem pr_dep (w : World) : (FmtDoors.printed ⟨#[100, 101, 112, 116, 104, 32, 37, 100, 32, 111, 117, 116, 32, 111, 102, 32, 114, 97, 110, 103, 101]⟩ 1).run Tryf.prog w = .ok [(0, 100, false)] w := by kernel_rfl
theorem pq_dep : FmtStop.printed? ⟨#[100, 101, 112, 116, 104, 32, 37, 100, 32, 111, 117, 116, 32, 111, 102, 32, 114, 97, 110, 103, 101]⟩ 1 = some [(0, 100, false)] := by kernel_rfl
theorem pr_par (w : World) : (FmtDoors.printed ⟨#[111, 98, 106, 101, 99, 116, 32, 112, 97, 114, 97, 109, 101, 116, 101, 114, 115, 32, 111, 102, 32, 37, 100, 32, 98, 121, 116, 101, 115, 32, 97, 114, 101, 32, 116, 111, 111, 32, 108, 111, 110, 103]⟩ 1).run Tryf.prog w = .ok [(0, 100, false)] w := by kernel_rfl
theorem pq_par : FmtStop.printed? ⟨#[111, 98, 106, 101, 99, 116, 32, 112, 97, 114, 97, 109, 101, 116, 101, 114, 115, 32, 111, 102, 32, 37, 100, 32, 98, 121, 116, 101, 115, 32, 97, 114, 101, 32, 116, 111, 111, 32, 108, 111, 110, 103]⟩ 1 = some [(0, 100, false)] := by kernel_rfl
theorem pr_cro (w : World) : (FmtDoors.printed ⟨#[99, 114, 111, 115, 115, 32, 99, 104, 101, 99, 107, 115, 117, 109, 32, 111, 102, 32, 37, 100, 32, 98, 121, 116, 101, 115, 32, 105, 115, 32, 116, 111, 111, 32, 108, 111, 110, 103]⟩ 1).run Tryf.prog w = .ok [(0, 100, false)] w := by kernel_rfl
theorem pq_cro : FmtStop.printed? ⟨#[99, 114, 111, 115, 115, 32, 99, 104, 101, 99, 107, 115, 117, 109, 32, 111, 102, 32, 37, 100, 32, 98, 121, 116, 101, 115, 32, 105, 115, 32, 116, 111, 111, 32, 108, 111, 110, 103]⟩ 1 = some [(0, 100, false)] := by kernel_rfl
theorem pr_sta (w : World) : (FmtDoors.printed ⟨#[97, 32, 108, 105, 115, 116, 32, 115, 116, 97, 114, 116, 32, 111, 102, 32, 37, 100, 32, 98, 121, 116, 101, 115, 32, 105, 115, 32, 116, 111, 111, 32, 108, 111, 110, 103]⟩ 1).run Tryf.prog w = .ok [(0, 100, false)] w := by kernel_rfl
theorem pq_sta : FmtStop.printed? ⟨#[97, 32, 108, 105, 115, 116, 32, 115, 116, 97, 114, 116, 32, 111, 102, 32, 37, 100, 32, 98, 121, 116, 101, 115, 32, 105, 115, 32, 116, 111, 111, 32, 108, 111, 110, 103]⟩ 1 = some [(0, 100, false)] := by kernel_rfl
theorem pr_lim (w : World) : (FmtDoors.printed ⟨#[97, 32, 108, 105, 115, 116, 32, 111, 102, 32, 37, 100, 32, 110, 97, 109, 101, 115, 32, 111, 117, 116, 32, 111, 102, 32, 114, 97, 110, 103, 101]⟩ 1).run Tryf.prog w = .ok [(0, 100, false)] w := by kernel_rfl
theorem pq_lim : FmtStop.printed? ⟨#[97, 32, 108, 105, 115, 116, 32, 111, 102, 32, 37, 100, 32, 110, 97, 109, 101, 115, 32, 111, 117, 116, 32, 111, 102, 32, 114, 97, 110, 103, 101]⟩ 1 = some [(0, 100, false)] := by kernel_rfl
theorem pr_skew (w : World) : (FmtDoors.printed ⟨#[97, 32, 110, 101, 103, 97, 116, 105, 118, 101, 32, 115, 107, 101, 119, 32, 111, 102, 32, 37, 118]⟩ 1).run Tryf.prog w = .ok [(0, 118, false)] w := by kernel_rfl
theorem pr_two (w : World) : (FmtDoors.printed ⟨#[97, 32, 108, 105, 115, 116, 32, 115, 116, 97, 114, 116, 32, 37, 113, 32, 116, 104, 97, 116, 32, 100, 111, 101, 115, 32, 110, 111, 116, 32, 98, 101, 103, 105, 110, 32, 119, 105, 116, 104, 32, 105, 116, 115, 32, 112, 114, 101, 102, 105, 120, 32, 37, 113]⟩ 2).run Tryf.prog w = .ok [(0, 113, false), (1, 113, false)] w := by kernel_rfl
theorem pq_two : FmtStop.printed? ⟨#[97, 32, 108, 105, 115, 116, 32, 115, 116, 97, 114, 116, 32, 37, 113, 32, 116, 104, 97, 116, 32, 100, 111, 101, 115, 32, 110, 111, 116, 32, 98, 101, 103, 105, 110, 32, 119, 105, 116, 104, 32, 105, 116, 115, 32, 112, 114, 101, 102, 105, 120, 32, 37, 113]⟩ 2 = some [(0, 113, false), (1, 113, false)] := by kernel_rfl

set_option maxHeartbeats 1000000 in
theorem node38 (F : Interp) (id : Int) (w : World) (hF : F.answers w.tape) :
    Calls Tryf.prog 38 #[.int .i64 id] w fun e w' => (0 ≤ id ∧ id ≤ 255 ∧ e = .returned .nilIface ∧ w' = w) ∨ (¬ (0 ≤ id ∧ id ≤ 255) ∧ Err w e w') := by
  go_enter Tryf.func38, Tryf.ntmps38
  go_wp2_with fail
  all_goals try (
    refine (errorf_int F _ id _ _ (by exact hF) (by rw [World.cell?_alloc_at]; all_goals rfl) pq_node pr_node).mono ?_
    rintro e w' ⟨k, rfl, hb⟩
    go_wp2
    go_ret
    exact .inr ⟨by omega, _, rfl, ((Below.refl _ _).alloc (Nat.le_refl _) _).trans (hb.mono (by simp))⟩)
  go_ret
  exact .inl ⟨by omega, by omega, rfl, rfl⟩
end Go.Proofs.Qxb6612340aFmt
