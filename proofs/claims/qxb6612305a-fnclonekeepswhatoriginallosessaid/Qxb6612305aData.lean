import Derived.Test.Qxb6612305aClone
import Derived.Laws.StructEq
namespace Go.Proofs.Qxb6612305a
open Go.RowKit

/-- the 34 cells of book.Loan{ID: s, State: st} -/
def lc (s st : ByteArray) : Array Value := (loanV s st).cells
theorem loanV_lc (s st : ByteArray) : loanV s st = .agg (lc s st) := rfl
theorem lc_size (s st : ByteArray) : (lc s st).size = 34 := rfl
theorem lc_one (s st : ByteArray) : (lc s st).all (·.oneCell') = true := by unfold lc loanV; simp [Value.cells, Value.oneCell']
theorem zero52 (w : World) : (zeroValue 52).run Try.prog w = .ok (.agg (lc ByteArray.empty ByteArray.empty)) w := by kernel_rfl
theorem info52 : (Try.prog.info? 52).map (·.size) = some 34 := by kernel_rfl

theorem neq39 (s : ByteArray) (x : Int) (w : World) : (binOp .neq 39 (.agg #[.string s, .int .i64 x]) (.agg #[.string s, .int .i64 x])).run Try.prog w = .ok (.bool false) w := by
  go_simp
set_option maxRecDepth 100000 in
theorem neq52 (s st : ByteArray) (w : World) : (binOp .neq 52 (.agg (lc s st)) (.agg (lc s st))).run Try.prog w = .ok (.bool false) w := by
  have h999841 : ∀ w, (Op.equalIn 9998 41 (.pointer none) (.pointer none)).run Try.prog w = .ok true w := fun w => by kernel_rfl
  have h999842 : ∀ w, (Op.equalIn 9998 42 (.pointer none) (.pointer none)).run Try.prog w = .ok true w := fun w => by kernel_rfl
  have h999941 : ∀ w, (Op.equalIn 9999 41 (.pointer none) (.pointer none)).run Try.prog w = .ok true w := fun w => by kernel_rfl
  have h999942 : ∀ w, (Op.equalIn 9999 42 (.pointer none) (.pointer none)).run Try.prog w = .ok true w := fun w => by kernel_rfl
  have h999948 : ∀ w, (Op.equalIn 9999 48 (.pointer none) (.pointer none)).run Try.prog w = .ok true w := fun w => by kernel_rfl
  show (binOp .neq 52 (loanV s st) (loanV s st)).run Try.prog w = _
  unfold loanV
  go_simp

def zA : Value := assetV ByteArray.empty 0
def zL : Value := loanV ByteArray.empty ByteArray.empty
theorem zero39 (w : World) : (zeroValue 39).run Try.prog w = .ok zA w := by kernel_rfl
theorem zero52' (w : World) : (zeroValue 52).run Try.prog w = .ok zL w := by kernel_rfl
/-- every element is an Asset, every element is a Loan as the law lays them -/
def AllA (D : DataW Value) : Prop := ∀ kl, ∃ s x, D.atKey kl (.held zA) = .held (assetV s x)
def AllL (D : DataW Value) : Prop := ∀ kl, ∃ s st, D.atKey kl (.held zL) = .held (loanV s st)
theorem keyLit (s : ByteArray) : WideAt.IsKeyLit (key s) := trivial
theorem AllA.empty : AllA (.map []) := fun _ => ⟨ByteArray.empty, 0, rfl⟩
theorem AllL.empty : AllL (.map []) := fun _ => ⟨ByteArray.empty, ByteArray.empty, rfl⟩
theorem AllA.put {D : DataW Value} (h : AllA D) (hm : Maps.IsMap D) (k s : ByteArray) (x : Int) : AllA (D.put (key k) (.held (assetV s x))) := by
  intro kl
  by_cases e : kl = key k
  · subst e; exact ⟨s, x, Maps.atKey_put_same hm (keyLit k) _ _⟩
  · obtain ⟨s', x', h'⟩ := h kl
    exact ⟨s', x', by rw [Maps.atKey_put_other e]; exact h'⟩
theorem AllL.put {D : DataW Value} (h : AllL D) (hm : Maps.IsMap D) (k s st : ByteArray) : AllL (D.put (key k) (.held (loanV s st))) := by
  intro kl
  by_cases e : kl = key k
  · subst e; exact ⟨s, st, Maps.atKey_put_same hm (keyLit k) _ _⟩
  · obtain ⟨s', x', h'⟩ := h kl
    exact ⟨s', x', by rw [Maps.atKey_put_other e]; exact h'⟩
theorem AllA.del {D : DataW Value} (h : AllA D) (k : Lit) : AllA (D.del k) := by
  intro kl
  by_cases e : kl = k
  · subst e; exact ⟨ByteArray.empty, 0, Maps.atKey_del_same _⟩
  · obtain ⟨s', x', h'⟩ := h kl
    exact ⟨s', x', by rw [Maps.atKey_del_other e]; exact h'⟩
theorem AllL.del {D : DataW Value} (h : AllL D) (k : Lit) : AllL (D.del k) := by
  intro kl
  by_cases e : kl = k
  · subst e; exact ⟨ByteArray.empty, ByteArray.empty, Maps.atKey_del_same _⟩
  · obtain ⟨s', x', h'⟩ := h kl
    exact ⟨s', x', by rw [Maps.atKey_del_other e]; exact h'⟩
theorem dA_map (nm : Nat → ByteArray) (de : Nat → Int) (nd k : Nat) : Maps.IsMap (dA nm de nd k) := by
  induction k with
  | zero => exact Maps.isMap_empty
  | succ k ih => exact ih.put _ _
theorem dL_map (st : ByteArray) (im : Nat → ByteArray) (k : Nat) : Maps.IsMap (dL st im k) := by
  induction k with
  | zero => exact Maps.isMap_empty
  | succ k ih => exact ih.put _ _
theorem dA_all (nm : Nat → ByteArray) (de : Nat → Int) (nd k : Nat) : AllA (dA nm de nd k) := by
  induction k with
  | zero => exact AllA.empty
  | succ k ih => exact ih.put (dA_map nm de nd k) _ _ _
theorem dL_all (st : ByteArray) (im : Nat → ByteArray) (k : Nat) : AllL (dL st im k) := by
  induction k with
  | zero => exact AllL.empty
  | succ k ih => exact ih.put (dL_map st im k) _ _ _
theorem dA_has (nm : Nat → ByteArray) (de : Nat → Int) (nd n j : Nat) (h : j < n) : Maps.has (dA nm de nd n) (key (nm j)) = true := by
  induction n with
  | zero => omega
  | succ n ih =>
    by_cases e : key (nm j) = key (nm n)
    · rw [e]; exact Maps.has_put_same (dA_map nm de nd n) (keyLit _) _
    · show Maps.has ((dA nm de nd n).put _ _) _ = true
      rw [Maps.has_put_other e]
      exact ih (by
        rcases Nat.lt_or_eq_of_le (Nat.le_of_lt_succ h) with h' | h'
        · exact h'
        · subst h'; exact absurd rfl e)
theorem dL_has (st : ByteArray) (im : Nat → ByteArray) (n j : Nat) (h : j < n) : Maps.has (dL st im n) (key (im j)) = true := by
  induction n with
  | zero => omega
  | succ n ih =>
    by_cases e : key (im j) = key (im n)
    · rw [e]; exact Maps.has_put_same (dL_map st im n) (keyLit _) _
    · show Maps.has ((dL st im n).put _ _) _ = true
      rw [Maps.has_put_other e]
      exact ih (by
        rcases Nat.lt_or_eq_of_le (Nat.le_of_lt_succ h) with h' | h'
        · exact h'
        · subst h'; exact absurd rfl e)

/-! ### the pigeonhole -/
theorem keys_le : ∀ (c : List Lit) (D : DataW Value), Maps.Tidy D → c.Nodup → (∀ k ∈ c, Maps.has D k = true) → c.length ≤ Maps.size D
  | [], _, _, _, _ => Nat.zero_le _
  | k :: c, D, hT, hn, hh => by
    have h1 := hh k (by simp)
    have hn' := List.nodup_cons.1 hn
    have ih := keys_le c (D.del k) (hT.del k) hn'.2 (fun k' hk' => by
      rw [Maps.has_del_other (k := k) (k' := k') (fun e => hn'.1 (e ▸ hk'))]
      exact hh k' (by simp [hk']))
    have hs := Maps.size_del (k := k) hT
    rw [h1] at hs
    simp at hs ⊢
    omega
def hashes (m : Nat) : ByteArray := ⟨Array.replicate m 35⟩
theorem hashes_size (m : Nat) : (hashes m).size = m := by simp [hashes, ByteArray.size]
theorem hashes_inj {a b : Nat} (h : key (hashes a) = key (hashes b)) : a = b := by
  unfold key at h
  injection h with h
  have := congrArg List.length h
  simpa [hashes] using this
theorem pigeon (A B : DataW Value) (hA : Maps.Tidy A) (hB : Maps.Tidy B) (m : Nat) (h : ∀ i, i < m → Maps.has A (key (hashes (i + 1))) = true ∨ Maps.has B (key (hashes (i + 1))) = true) : m ≤ Maps.size A + Maps.size B := by
  have key1 : ∀ (p : Nat → Bool) (m : Nat), ((List.range m).filter p).length + ((List.range m).filter (fun i => !p i)).length = m := by
    intro p m
    induction m with
    | zero => rfl
    | succ m ih =>
      rw [List.range_succ, List.filter_append, List.filter_append, List.length_append, List.length_append]
      cases hp : p m <;> simp [hp] <;> omega
  have nd : ∀ (p : Nat → Bool), (((List.range m).filter p).map (fun i => key (hashes (i + 1)))).Nodup := by
    intro p
    unfold List.Nodup
    rw [List.pairwise_map]
    exact ((List.nodup_range (n := m)).filter p).imp (fun {x y} hne e => hne (by have := hashes_inj e; omega))
  have h1 := keys_le (((List.range m).filter (fun i => Maps.has A (key (hashes (i + 1))))).map (fun i => key (hashes (i + 1)))) A hA (nd _) (fun k hk => by
    rw [List.mem_map] at hk
    obtain ⟨i, hi, rfl⟩ := hk
    exact (List.mem_filter.1 hi).2)
  have h2 := keys_le (((List.range m).filter (fun i => !Maps.has A (key (hashes (i + 1))))).map (fun i => key (hashes (i + 1)))) B hB (nd _) (fun k hk => by
    rw [List.mem_map] at hk
    obtain ⟨i, hi, rfl⟩ := hk
    obtain ⟨hi1, hi2⟩ := List.mem_filter.1 hi
    rcases h i (by simpa using hi1) with h | h
    · simp [h] at hi2
    · exact h)
  have h3 := key1 (fun i => Maps.has A (key (hashes (i + 1)))) m
  simp at h1 h2 h3
  omega
end Go.Proofs.Qxb6612305a
