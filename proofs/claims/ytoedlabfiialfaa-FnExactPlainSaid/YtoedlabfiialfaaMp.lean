/-
  Maps whose keys are plain: what lies in them as a list, looked up and stored.
-/
import Derived.Test.YtoedlabfiialfaaPut
import Derived.Maps.OwnSet
import Derived.Below
import Derived.WalkKit
namespace Go.Proofs.Ytoedlabfiialfaa
open Go.RowKit Go.ChangeMaps

theorem ba_beq (a b : ByteArray) : (a == b) = decide (a = b) := by
  have e : (a == b) = (a.data == b.data) := rfl
  rw [e]
  by_cases h : a = b
  · subst h; simp
  · have : a.data ≠ b.data := fun h' => h (by cases a; cases b; simp_all)
    simp [h, this]

/-- keys of a plain kind -/
structure KeyKind {α : Type} [DecidableEq α] (P : Program) (kt : TypeId) (mk : α → Value) (d : TypeDesc) : Prop where
  under : P.underlying kt = some d
  same : ∀ a b, Instr.sameNow d (mk a) (mk b) = some (decide (a = b))
  bits : ∀ a, Instr.sameBits 10000 (mk a) (mk a) = true
  check : ∀ e a w, (Instr.checkKey e 10000 kt (mk a)).run P w = .ok () w

section
variable {α : Type}
def entsFrom (mk : α → Value) : List (α × Value) → Nat → List MapEntry
  | [], _ => []
  | x :: l, n => ⟨mk x.1, x.2, n⟩ :: entsFrom mk l (n + 1)
def findL [DecidableEq α] (a : α) : List (α × Value) → Nat → Option (Nat × Value)
  | [], _ => none
  | x :: l, i => if a = x.1 then some (i, x.2) else findL a l (i + 1)
theorem entsFrom_length (mk : α → Value) (l : List (α × Value)) (n : Nat) : (entsFrom mk l n).length = l.length := by
  induction l generalizing n with
  | nil => rfl
  | cons x l ih => simp [entsFrom, ih]
theorem entsFrom_append (mk : α → Value) (l m : List (α × Value)) (n : Nat) : entsFrom mk (l ++ m) n = entsFrom mk l n ++ entsFrom mk m (n + l.length) := by
  induction l generalizing n with
  | nil => rfl
  | cons x l ih => simp only [List.cons_append, entsFrom, ih, List.length_cons]; rw [show n + 1 + l.length = n + (l.length + 1) by omega]
theorem entsFrom_get (mk : α → Value) (l : List (α × Value)) (n k : Nat) (hk : k < l.length) : (entsFrom mk l n)[k]? = some ⟨mk l[k].1, l[k].2, n + k⟩ := by
  induction l generalizing n k with
  | nil => simp at hk
  | cons x l ih =>
    cases k with
    | zero => rfl
    | succ k =>
      simp only [List.length_cons] at hk
      simp only [entsFrom, List.getElem?_cons_succ, List.getElem_cons_succ]
      rw [ih _ _ (by omega), show n + 1 + k = n + (k + 1) by omega]
theorem findL_none [DecidableEq α] {a : α} {l : List (α × Value)} {i : Nat} : findL a l i = none ↔ ∀ x ∈ l, x.1 ≠ a := by
  induction l generalizing i with
  | nil => simp [findL]
  | cons x l ih =>
    unfold findL
    split
    · rename_i h; simp [h]
    · rename_i h
      rw [ih]
      simp only [List.mem_cons, forall_eq_or_imp, ne_eq]
      exact ⟨fun h2 => ⟨fun e => h e.symm, h2⟩, fun h2 => h2.2⟩
theorem findL_some [DecidableEq α] {a : α} {l : List (α × Value)} {i j : Nat} {v : Value} (h : findL a l i = some (j, v)) : ∃ k, ∃ hk : k < l.length, j = i + k ∧ l[k] = (a, v) ∧ ∀ k', ∀ h' : k' < l.length, k' < k → l[k'].1 ≠ a := by
  induction l generalizing i with
  | nil => simp [findL] at h
  | cons x l ih =>
    unfold findL at h
    split at h
    · rename_i he
      simp only [Option.some.injEq, Prod.mk.injEq] at h
      exact ⟨0, by simp, by omega, by simp [he, ← h.2], fun k' _ hk' => absurd hk' (by omega)⟩
    · rename_i he
      obtain ⟨k, hk, e1, e2, e3⟩ := ih h
      refine ⟨k + 1, by simp; omega, by omega, by simpa using e2, fun k' h' hk' => ?_⟩
      cases k' with
      | zero => exact fun e => he e.symm
      | succ k' => simpa using e3 k' (by simpa using h') (by omega)
theorem findNow_ents [DecidableEq α] {P : Program} {kt : TypeId} {mk : α → Value} {d : TypeDesc} (K : KeyKind P kt mk d) (a : α) (l : List (α × Value)) (n i : Nat) : Instr.findNow d (mk a) (entsFrom mk l n) i = some (findL a l i) := by
  induction l generalizing n i with
  | nil => rfl
  | cons x l ih =>
    unfold entsFrom Instr.findNow findL
    rw [K.same]
    by_cases h : a = x.1
    · simp [h]
    · simp [h, ih]

/-- block b is a map that holds l -/
def MapL (mk : α → Value) (w : World) (b : Nat) (l : List (α × Value)) : Prop := w.heap[b]? = some (.map (entsFrom mk l 0).toArray l.length)
theorem MapL.keep {mk : α → Value} {w w' : World} {b : Nat} {l : List (α × Value)} (h : MapL mk w b l) (hb : Below w.heap.size w w') : MapL mk w' b l :=
  (hb.block b (Array.getElem?_eq_some_iff.1 h).1).trans h
theorem MapL.fr {S : Nat → Prop} {mk : α → Value} {w w' : World} {b : Nat} {l : List (α × Value)} (h : MapL mk w b l) (f : Fr S w w') (hs : ¬ S b) : MapL mk w' b l :=
  (f.block b (Array.getElem?_eq_some_iff.1 h).1 hs).trans h
theorem MapL.lt {mk : α → Value} {w : World} {b : Nat} {l : List (α × Value)} (h : MapL mk w b l) : b < w.heap.size := (Array.getElem?_eq_some_iff.1 h).1
theorem run_findKey_ents [DecidableEq α] {P : Program} {kt : TypeId} {mk : α → Value} {d : TypeDesc} (K : KeyKind P kt mk d) (a : α) (l : List (α × Value)) (n : Nat) (w : World) :
    (Instr.findKey kt (mk a) (entsFrom mk l n)).run P w = .ok (findL a l 0) w := by
  simp [Instr.findKey, Sem.run_bind, run_underlying K.under, findNow_ents K, Result.andThen]
theorem MapL.look [DecidableEq α] {P : Program} {t kt et : TypeId} {mk : α → Value} {d : TypeDesc} (K : KeyKind P kt mk d) (ht : P.underlying t = some (.map kt et)) {w : World} {b : Nat} {l : List (α × Value)} (h : MapL mk w b l) {z : Value} (hz : (zeroValue et).run P w = .ok z w) (a : α) :
    (Instr.lookup t (.map (some b)) (mk a) true).run P w = .ok (match findL a l 0 with | some r => .tuple #[r.2, .bool true] | none => .tuple #[z, .bool false]) w := by
  unfold MapL at h
  have hc := K.check (entsFrom mk l 0).toArray.isEmpty a w
  have hf := run_findKey_ents K a l 0 w
  unfold Instr.lookup
  simp only [Sem.run_bind, run_underlying ht, Result.andThen_ok, Go.MapKept.run_getObj_map h, Sem.run_pure, hc, hf]
  cases hfl : findL a l 0 with
  | none => simp [hz, Result.andThen]
  | some r => simp
/-- what becomes of the list when v is stored under a -/
def putL [DecidableEq α] (a : α) (v : Value) (l : List (α × Value)) : List (α × Value) :=
  match findL a l 0 with
  | some r => l.set r.1 (a, v)
  | none => l ++ [(a, v)]
theorem entsFrom_set (mk : α → Value) (l : List (α × Value)) (n i : Nat) (a : α) (v : Value) : (entsFrom mk l n).modify i (fun e => { e with key := mk a, val := v }) = entsFrom mk (l.set i (a, v)) n := by
  induction l generalizing n i with
  | nil => cases i <;> rfl
  | cons x l ih =>
    cases i with
    | zero => rfl
    | succ i => simp [entsFrom, ih]
theorem MapL.store [DecidableEq α] {P : Program} {t kt et : TypeId} {mk : α → Value} {d : TypeDesc} (K : KeyKind P kt mk d) (ht : P.underlying t = some (.map kt et)) {w : World} {b : Nat} {l : List (α × Value)} (h : MapL mk w b l) (a : α) (v : Value) :
    ∃ w', (Instr.mapUpdate t (.map (some b)) (mk a) v).run P w = .ok () w' ∧ MapL mk w' b (putL a v l) ∧ Fr (fun k => k = b) w w' := by
  unfold MapL at h
  have hc := K.check false a w
  have hf := run_findKey_ents K a l 0 w
  have hfr : ∀ o, Fr (fun k => k = b) w (setBlock w b o) := fun o => ⟨rfl, rfl, rfl, by simp [setBlock], fun k _ hk => heap_setBlock_other h o hk⟩
  cases hfl : findL a l 0 with
  | none =>
    refine ⟨setBlock w b (.map ((entsFrom mk l 0).toArray.push ⟨mk a, v, l.length⟩) (l.length + 1)), ?_, ?_, hfr _⟩
    · rw [hfl] at hf
      unfold Instr.mapUpdate
      simp only [Sem.run_bind, run_underlying ht, Result.andThen_ok, Go.MapKept.run_getObj_map h, hc, hf, Go.MapKept.run_setObj_map _ h]
      rfl
    · unfold MapL putL
      rw [hfl, heap_setBlock_same h]
      simp [entsFrom_append, entsFrom]
  | some r =>
    obtain ⟨i, u⟩ := r
    obtain ⟨k, hk, e1, e2, _⟩ := findL_some hfl
    obtain rfl : i = k := by omega
    refine ⟨setBlock w b (.map ((entsFrom mk l 0).toArray.modify i fun e => { e with key := mk a, val := v }) l.length), ?_, ?_, hfr _⟩
    · rw [hfl] at hf
      have hg : ((entsFrom mk l 0).toArray[i]?) = some ⟨mk a, u, i⟩ := by
        simp [entsFrom_get mk l 0 i hk, e2]
      unfold Instr.mapUpdate
      simp only [Sem.run_bind, run_underlying ht, Result.andThen_ok, Go.MapKept.run_getObj_map h, hc, hf, hg, Option.map_some, Option.getD_some, Instr.keyThatStays, K.bits, if_true, Sem.run_pure, Go.MapKept.run_setObj_map _ h]
      rfl
    · unfold MapL putL
      rw [hfl, heap_setBlock_same h]
      simp [← entsFrom_set]
theorem mem_putL [DecidableEq α] {a : α} {v : Value} {l : List (α × Value)} {x : α × Value} (h : x ∈ putL a v l) : x = (a, v) ∨ x ∈ l := by
  unfold putL at h
  split at h
  · rcases List.mem_or_eq_of_mem_set h with h | h
    · exact .inr h
    · exact .inl h
  · rw [List.mem_append, List.mem_singleton] at h
    exact h.symm
theorem putL_has [DecidableEq α] (a : α) (v : Value) (l : List (α × Value)) : ∃ x ∈ putL a v l, x.1 = a := by
  unfold putL
  split
  · rename_i r hr
    obtain ⟨j, u⟩ := r
    obtain ⟨k, hk, e, _, _⟩ := findL_some hr
    refine ⟨(a, v), ?_, rfl⟩
    rw [List.mem_iff_getElem]
    exact ⟨j, by simp; omega, by simp⟩
  · exact ⟨(a, v), by simp, rfl⟩
theorem putL_old [DecidableEq α] {a b : α} {v : Value} {l : List (α × Value)} (h : ∃ x ∈ l, x.1 = b) : ∃ x ∈ putL a v l, x.1 = b := by
  by_cases hab : b = a
  · subst hab; exact putL_has b v l
  · obtain ⟨x, hx, rfl⟩ := h
    unfold putL
    split
    · rename_i r hr
      obtain ⟨j, u⟩ := r
      obtain ⟨k, hk, e, e2, _⟩ := findL_some hr
      obtain ⟨i, hi, rfl⟩ := List.getElem_of_mem hx
      have hne : i ≠ j := fun h => by
        obtain rfl : i = k := by omega
        rw [e2] at hab
        exact hab rfl
      exact ⟨l[i], List.mem_iff_getElem.2 ⟨i, by simpa using hi, by rw [List.getElem_set, if_neg (fun h => hne h.symm)]⟩, rfl⟩
    · exact ⟨x, by simp [hx], rfl⟩
end
end Go.Proofs.Ytoedlabfiialfaa
