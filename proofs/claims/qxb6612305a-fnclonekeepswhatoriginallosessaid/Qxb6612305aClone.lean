import Derived.Test.Qxb6612305aMaps
import Derived.Shelf.SlMaps.Clone
import Derived.BigQuiet
import Derived.Deep.QuietTactic
namespace Go.Proofs.Qxb6612305a
open Go.RowKit

set_option maxHeartbeats 1000000 in
theorem newState9 (ct la : Int) (A L : Nat) (w : World) :
    Calls Try.prog 9 #[.int .i64 ct, .int .i64 la, .map (some A), .map (some L)] w fun e w' => e = .returned (.pointer (some ⟨w.heap.size, 0, none⟩)) ∧ w' = w.alloc (.cells #[.int .i64 ct, .int .i64 la, .map (some A), .map (some L)] 34) := by
  go_enter Try.func9, Try.ntmps9
  go_wp2
  go_ret
  exact ⟨rfl, rfl⟩

set_option maxHeartbeats 1000000 in
theorem fields11 (ct la : Int) (A L s : Nat) (w : World) (h0 : w.cell? ⟨s, 0, none⟩ = some (.int .i64 ct)) (h1 : w.cell? ⟨s, 1, none⟩ = some (.int .i64 la)) (h2 : w.cell? ⟨s, 2, none⟩ = some (.map (some A))) (h3 : w.cell? ⟨s, 3, none⟩ = some (.map (some L))) :
    Calls Try.prog 11 #[.pointer (some ⟨s, 0, none⟩)] w fun e w' => e = .returned (.tuple #[.int .i64 ct, .int .i64 la, .map (some A), .map (some L)]) ∧ ∃ q, w' = w.drewN q := by
  go_enter Try.func11, Try.ntmps11
  go_wp2
  go_quiet (fail)
  go_wp2
  exact bodyPost_ret (v := .tuple #[.int .i64 ct, .int .i64 la, .map (some A), .map (some L)]) (by simp [results, Try.results11, go_sem]) rfl ⟨rfl, _, rfl⟩

set_option maxHeartbeats 1000000 in
theorem clone15 (b : Nat) (es : Array MapEntry) (clock : Nat) (w : World) (hb : w.heap[b]? = some (.map es clock)) :
    Calls Try.prog 15 #[.map (some b)] w fun e w' => e = .returned (.map (some w.heap.size)) ∧ w' = w.alloc (.map es clock) := by
  have hq := fun w => run_eql_map_nil_sl (P := Try.prog) w 27 9 39 (some b) Try.underlying27
  go_enter Try.func15, Try.ntmps15
  go_wp2
  rw [run_callFunc_extern Try.func17 (by kernel_rfl) (by kernel_rfl) (by kernel_rfl) (e := Extern.MapsClone.clone) (by kernel_rfl), run_maps_clone_sl w 27 hb]
  simp only [Result.andThen]
  rw [Oper.upon_value]
  go_wp2
  rw [run_typeAssert_map_sl _ 27 20 9 39 _ Try.underlying27]
  simp only [Result.andThen]
  rw [Oper.upon_value]
  go_wp2
  go_ret
  exact ⟨rfl, rfl⟩
set_option maxHeartbeats 1000000 in
theorem clone16 (b : Nat) (es : Array MapEntry) (clock : Nat) (w : World) (hb : w.heap[b]? = some (.map es clock)) :
    Calls Try.prog 16 #[.map (some b)] w fun e w' => e = .returned (.map (some w.heap.size)) ∧ w' = w.alloc (.map es clock) := by
  have hq := fun w => run_eql_map_nil_sl (P := Try.prog) w 28 9 52 (some b) Try.underlying28
  go_enter Try.func16, Try.ntmps16
  go_wp2
  rw [run_callFunc_extern Try.func17 (by kernel_rfl) (by kernel_rfl) (by kernel_rfl) (e := Extern.MapsClone.clone) (by kernel_rfl), run_maps_clone_sl w 28 hb]
  simp only [Result.andThen]
  rw [Oper.upon_value]
  go_wp2
  rw [run_typeAssert_map_sl _ 28 20 9 52 _ Try.underlying28]
  simp only [Result.andThen]
  rw [Oper.upon_value]
  go_wp2
  go_ret
  exact ⟨rfl, rfl⟩

def Kept (w w' : World) : Prop := Below w.heap.size w w'
/-- the four cells of a State -/
def St (w : World) (s : Nat) (ct la : Int) (A L : Nat) : Prop :=
  w.cell? ⟨s, 0, none⟩ = some (.int .i64 ct) ∧ w.cell? ⟨s, 1, none⟩ = some (.int .i64 la) ∧ w.cell? ⟨s, 2, none⟩ = some (.map (some A)) ∧ w.cell? ⟨s, 3, none⟩ = some (.map (some L))
theorem St.below {w w' : World} {B s : Nat} {ct la : Int} {A L : Nat} (h : St w s ct la A L) (hb : Below B w w') (hlt : s < B) : St w' s ct la A L := by
  obtain ⟨h0, h1, h2, h3⟩ := h
  exact ⟨(hb.cell (p := ⟨s, 0, none⟩) hlt).trans h0, (hb.cell (p := ⟨s, 1, none⟩) hlt).trans h1, (hb.cell (p := ⟨s, 2, none⟩) hlt).trans h2, (hb.cell (p := ⟨s, 3, none⟩) hlt).trans h3⟩
theorem St.lt {w : World} {s : Nat} {ct la : Int} {A L : Nat} (h : St w s ct la A L) : s < w.heap.size := block_lt_of_cell h.1

set_option maxHeartbeats 2000000 in
theorem clone14 (ct la : Int) (A L s : Nat) (esA esL : Array MapEntry) (ckA ckL : Nat) (w : World) (hst : St w s ct la A L) (hA : w.heap[A]? = some (.map esA ckA)) (hL : w.heap[L]? = some (.map esL ckL)) :
    Calls Try.prog 14 #[.pointer (some ⟨s, 0, none⟩)] w fun e w' => e = .returned (.agg #[.int .i64 ct, .int .i64 la, .map (some (w.heap.size + 1)), .map (some (w.heap.size + 2))]) ∧
      w' = (((w.alloc (.cells #[.int .i64 ct, .int .i64 la, .map (some (w.heap.size + 1)), .map (some (w.heap.size + 2))] 34)).alloc (.map esA ckA)).alloc (.map esL ckL)).drew := by
  have hmk : ∀ W', Below w.heap.size w W' → (W'.cell? ⟨s, 0, none⟩ = some (.int .i64 ct) ∧ W'.cell? ⟨s, 1, none⟩ = some (.int .i64 la) ∧ W'.cell? ⟨s, 2, none⟩ = some (.map (some A)) ∧ W'.cell? ⟨s, 3, none⟩ = some (.map (some L))) ∧ Kept w W' :=
    fun W' hb => ⟨hst.below hb hst.lt, hb⟩
  have hAl : A < w.heap.size := (Array.getElem?_eq_some_iff.1 hA).1
  have hLl : L < w.heap.size := (Array.getElem?_eq_some_iff.1 hL).1
  have hcA : ∀ W', Kept w W' → W'.heap[A]? = some (.map esA ckA) := fun W' hb => (Below.block hb A hAl).trans hA
  have hcL : ∀ W', Kept w W' → W'.heap[L]? = some (.map esL ckL) := fun W' hb => (Below.block hb L hLl).trans hL
  go_enter Try.func14, Try.ntmps14
  go_wp2_with fail
  go_region_held3 (fun w' => (w'.cell? ⟨s, 0, none⟩ = some (.int .i64 ct) ∧ w'.cell? ⟨s, 1, none⟩ = some (.int .i64 la) ∧ w'.cell? ⟨s, 2, none⟩ = some (.map (some A)) ∧ w'.cell? ⟨s, 3, none⟩ = some (.map (some L))) ∧ Kept w w')
    (first
      | exact hmk _ ((Below.refl _ _).alloc (Nat.le_refl _) _).drew
      | exact hmk _ (((Below.refl _ _).alloc (Nat.le_refl _) _).alloc (by simp) _).drew
      | exact hmk _ ((((Below.refl _ _).alloc (Nat.le_refl _) _).alloc (by simp) _).alloc (by simp; omega) _).drew)
    (first
      | (go_at_call 15; refine (clone15 A esA ckA _ (hcA _ (And.right (by assumption)))).mono ?_; rintro e w' ⟨rfl, rfl⟩)
      | (go_at_call 16; refine (clone16 L esL ckL _ (hcL _ (And.right (by assumption)))).mono ?_; rintro e w' ⟨rfl, rfl⟩))
  go_wp2
  exact bodyPost_ret (v := .agg #[.int .i64 ct, .int .i64 la, .map (some (w.heap.size + 1)), .map (some (w.heap.size + 2))]) (by simp [results, Try.results14, go_sem]) rfl ⟨rfl, rfl⟩

theorem owns_heap {P : Program} {k : TypeId} {R : Value → Option (DataW Value × List MemPlace)} {w w' : World} {b b' n : Nat} {D : DataW Value} {es : Array MapEntry} {ck : Nat}
    (h : w.ownsMap P k R b n D) (hb : w.heap[b]? = some (.map es ck)) (hb' : w'.heap[b']? = some (.map es ck)) : w'.ownsMap P k R b' n D := by
  obtain ⟨es0, ck0, h1, F, hs, hD⟩ := h
  rw [h1] at hb
  cases hb
  exact ⟨es, ck, hb', F, hs, hD⟩
theorem owns_open {P : Program} {k : TypeId} {R : Value → Option (DataW Value × List MemPlace)} {w : World} {b n : Nat} {D : DataW Value} (h : w.ownsMap P k R b n D) : ∃ es ck, w.heap[b]? = some (.map es ck) := by
  obtain ⟨es0, ck0, h1, _⟩ := h
  exact ⟨es0, ck0, h1⟩

set_option maxHeartbeats 2000000 in
theorem zzclone10 (ct la : Int) (A L s nA nL : Nat) (DA DL : DataW Value) (w : World) (hst : St w s ct la A L) (hA : w.ownsMap Try.prog 9 valElem A nA DA) (hL : w.ownsMap Try.prog 9 valElem L nL DL) :
    Calls Try.prog 10 #[.pointer (some ⟨s, 0, none⟩)] w fun e w' => ∃ CA CL, e = .returned (.agg #[.int .i64 ct, .int .i64 la, .map (some CA), .map (some CL)]) ∧ w.heap.size ≤ CA ∧ CA < CL ∧
      w'.ownsMap Try.prog 9 valElem CA nA DA ∧ w'.ownsMap Try.prog 9 valElem CL nL DL ∧ Below w.heap.size w w' := by
  obtain ⟨esA, ckA, hA1⟩ := owns_open hA
  obtain ⟨esL, ckL, hL1⟩ := owns_open hL
  have HA : Hid (w.ownsMap Try.prog 9 valElem A nA DA) := hA
  have HL : Hid (w.ownsMap Try.prog 9 valElem L nL DL) := hL
  have HST : Hid (St w s ct la A L) := hst
  have HA1 : Hid (w.heap[A]? = some (.map esA ckA)) := hA1
  have HL1 : Hid (w.heap[L]? = some (.map esL ckL)) := hL1
  have hAl : A < w.heap.size := hA.lt
  have hLl : L < w.heap.size := hL.lt
  clear hA hL hst hA1 hL1
  go_enter Try.func10, Try.ntmps10
  go_wp2_with fail
  refine (clone14 ct la A L s esA esL ckA ckL _ (HST.out.below ((Below.refl w.heap.size _).alloc (Nat.le_refl _) _) HST.out.lt) ((Below.heap_alloc _ _ _ hAl).trans HA1.out) ((Below.heap_alloc _ _ _ hLl).trans HL1.out)).mono ?_
  rintro e w' ⟨rfl, rfl⟩
  go_wp2
  refine bodyPost_ret (v := .agg #[.int .i64 ct, .int .i64 la, .map (some (w.heap.size + 1 + 1)), .map (some (w.heap.size + 1 + 2))]) (by simp [results, Try.results10, go_sem]) rfl ⟨_, _, rfl, by omega, by omega, ?_, ?_, ?_⟩
  · have h2 : ∀ a b : Obj, ((w.alloc a).alloc b).heap.size = w.heap.size + 1 + 1 := fun a b => by simp
    refine owns_heap HA.out HA1.out ?_
    have := heap_alloc2_old ((w.alloc (.cells #[.int .i64 ct, .int .i64 la, .map (some (w.heap.size + 1 + 1)), .map (some (w.heap.size + 1 + 2))] 34)).alloc (.cells #[.int .i64 ct, .int .i64 la, .map (some (w.heap.size + 1 + 1)), .map (some (w.heap.size + 1 + 2))] 34)) (.map esA ckA) (.map esL ckL)
    rw [h2] at this
    exact this
  · have h2 : ∀ a b : Obj, ((w.alloc a).alloc b).heap.size = w.heap.size + 1 + 1 := fun a b => by simp
    refine owns_heap HL.out HL1.out ?_
    have := heap_alloc2_new ((w.alloc (.cells #[.int .i64 ct, .int .i64 la, .map (some (w.heap.size + 1 + 1)), .map (some (w.heap.size + 1 + 2))] 34)).alloc (.cells #[.int .i64 ct, .int .i64 la, .map (some (w.heap.size + 1 + 1)), .map (some (w.heap.size + 1 + 2))] 34)) (.map esA ckA) (.map esL ckL)
    rw [h2] at this
    exact this
  · exact (((((Below.refl _ _).alloc (Nat.le_refl _) _).alloc (by simp) _).alloc (by simp; omega) _).alloc (by simp; omega) _).drew
end Go.Proofs.Qxb6612305a
