/-
  A region that draws its order, and whose operations give the same values in whatever order: it may be walked once, in the order of the text. The operations may call functions that make memory, as long as an invariant of the worlds is kept.
-/
import Derived.Test.YtoedlabfiialfaaGreatProg
import Derived.WalkKit
namespace Go.Proofs.YtoedlabfiialfaaGreat
open Go.RowKit

section
variable {P : Program} {ops : Array Oper}

/-- an operation that gives the value v in every world of the invariant -/
def OpDet (P : Program) (Inv : World → Prop) (o : Oper) (a : Act) (v : Value) : Prop :=
  ∀ w, Inv w → match (execOp a.eval o).run P w with
    | .ok (.value u) w' => a.put o.dst u = a.put o.dst v ∧ Inv w'
    | .ok .skip w' => a.put o.dst undef = a.put o.dst v ∧ Inv w'
    | .ok (.enter f args) w' => Calls P f args w' fun e w'' => ∃ u, e = .returned u ∧ a.put o.dst u = a.put o.dst v ∧ Inv w''
    | .ok (.row row args) w' => Rows P row args w' fun u w'' => a.put o.dst u = a.put o.dst v ∧ Inv w''
    | _ => False

def wpDet (P : Program) (ops : Array Oper) (Inv : World → Prop) (R : Act → World → Prop) : List Oper → Act → Prop
  | [], a => ∀ w, Inv w → R a w
  | o :: rest, a => if Region.wanted o (yielded ops a.tmps) then ∃ v, OpDet P Inv o a v ∧ wpDet P ops Inv R rest (a.put o.dst v) else wpDet P ops Inv R rest (a.put o.dst undef)

/-- the frame when the operations of L are done -/
def frameOf (ops : Array Oper) (σ : Nat → Value) (L : Nat → Bool) (a : Act) : Nat → Act
  | 0 => a
  | k + 1 => if L k then (frameOf ops σ L a k).put ((ops[k]?).bind (·.dst)) (σ k) else frameOf ops σ L a k

def edge (o : Oper) (j : Nat) : Bool := o.after.any fun e => Region.binds .any e && e.on == j

/-- what is asked of the region's text -/
def detOk (ops : Array Oper) : Bool :=
  Region.noSelect ops &&
  ((List.range ops.size).all fun i => match ops[i]? with
    | some o => (o.after.all fun e => !Region.binds .any e || e.on < i) &&
      ((List.range ops.size).all fun j => match ops[j]? with
        | some p => (i == j || p.dst.isNone || p.dst != o.dst) &&
          (match p.dst with
            | some d => !(o.looksAt ops).contains d || i == j || (if j < i then ((Region.before ops).getD i 0).testBit j else ((Region.before ops).getD j 0).testBit i)
            | none => true)
        | none => true)
    | none => true)

structure DetOk (ops : Array Oper) : Prop where
  nosel : Region.noSelect ops = true
  back : ∀ (i : Nat) (o : Oper), ops[i]? = some o → ∀ e ∈ o.after, Region.binds .any e = true → e.on < i
  dst : ∀ (i j : Nat) (o p : Oper), ops[i]? = some o → ops[j]? = some p → i ≠ j → ∀ d, p.dst = some d → o.dst ≠ some d
  dep : ∀ (i j : Nat) (o p : Oper) (d : Tmp), ops[i]? = some o → ops[j]? = some p → p.dst = some d → d ∈ o.looksAt ops → i ≠ j → (j < i ∧ ((Region.before ops).getD i 0).testBit j = true) ∨ (i < j ∧ ((Region.before ops).getD j 0).testBit i = true)

theorem detOk_spec (h : detOk ops = true) : DetOk ops := by
  unfold detOk at h
  rw [Bool.and_eq_true, List.all_eq_true] at h
  obtain ⟨hs, h⟩ := h
  have lt : ∀ {i : Nat} {o : Oper}, ops[i]? = some o → i ∈ List.range ops.size := fun {i o} ho => List.mem_range.2 (Array.getElem?_eq_some_iff.1 ho).1
  have hi : ∀ i o, ops[i]? = some o → (∀ e ∈ o.after, Region.binds .any e = true → e.on < i) ∧ ∀ j p, ops[j]? = some p → (i == j || p.dst.isNone || p.dst != o.dst) = true ∧
      (match p.dst with
        | some d => !(o.looksAt ops).contains d || i == j || (if j < i then ((Region.before ops).getD i 0).testBit j else ((Region.before ops).getD j 0).testBit i)
        | none => true) = true := by
    intro i o ho
    have h1 := h i (lt ho)
    simp only [ho, Bool.and_eq_true, Array.all_eq_true_iff_forall_mem, List.all_eq_true] at h1
    refine ⟨fun e he hb => ?_, fun j p hp => ?_⟩
    · have := h1.1 e he
      simp only [hb, Bool.not_true, Bool.false_or, decide_eq_true_eq] at this
      exact this
    · have := h1.2 j (lt hp)
      simp only [hp, Bool.and_eq_true] at this
      exact this
  refine ⟨hs, fun i o ho => (hi i o ho).1, fun i j o p ho hp hne d hd he => ?_, fun i j o p d ho hp hd hmem hne => ?_⟩
  · have := ((hi i o ho).2 j p hp).1
    simp [hd, he, hne] at this
  · have := ((hi i o ho).2 j p hp).2
    simp only [hd] at this
    have hc : (o.looksAt ops).contains d = true := by simpa using hmem
    simp only [hc, Bool.not_true, Bool.false_or, Bool.or_eq_true, beq_iff_eq, hne, false_or] at this
    by_cases hj : j < i
    · rw [if_pos hj] at this
      exact .inl ⟨hj, this⟩
    · rw [if_neg hj] at this
      exact .inr ⟨by omega, this⟩

/-- a set of done operations with all that they wait for -/
def Closed (ops : Array Oper) (L : Nat → Bool) : Prop := ∀ (i : Nat) (o : Oper), ops[i]? = some o → L i = true → ∀ e ∈ o.after, Region.binds .any e = true → L e.on = true

theorem testBit_or (a b : Nat) (j : Nat) : (a ||| b).testBit j = (a.testBit j || b.testBit j) := Nat.testBit_or ..

theorem before_spec (L : Nat → Bool) (hL : Closed ops L) : ∀ (i : Nat) (o : Oper), ops[i]? = some o → (∀ e ∈ o.after, Region.binds .any e = true → L e.on = true) → ∀ j, ((Region.before ops).getD i 0).testBit j = true → L j = true := by
  have key : ∀ (l : List Oper) (acc : Array Nat), (∀ k o, l[k]? = some o → ops[acc.size + k]? = some o) →
      (∀ i o, i < acc.size → ops[i]? = some o → (∀ e ∈ o.after, Region.binds .any e = true → L e.on = true) → ∀ j, (acc.getD i 0).testBit j = true → L j = true) →
      ∀ i o, i < acc.size + l.length → ops[i]? = some o → (∀ e ∈ o.after, Region.binds .any e = true → L e.on = true) →
        ∀ j, ((l.foldl (init := acc) fun acc o => acc.push (o.after.foldl (fun s e => if Region.binds .any e then s ||| 2 ^ e.on ||| acc.getD e.on 0 else s) 0)).getD i 0).testBit j = true → L j = true := by
    intro l
    induction l with
    | nil => intro acc _ h i o hi ho hd j hj; exact h i o (by simpa using hi) ho hd j hj
    | cons x l ih =>
      intro acc hl h i o hi ho hd j hj
      simp only [List.foldl_cons] at hj
      refine ih _ (fun k o hk => ?_) (fun i' o' hi' ho' hd' j' hj' => ?_) i o (by simp at hi ⊢; omega) ho hd j hj
      · have := hl (k + 1) o (by simpa using hk)
        simpa [Nat.add_assoc, Nat.add_comm 1 k] using this
      · simp only [Array.size_push] at hi'
        by_cases hlast : i' = acc.size
        · subst hlast
          have hx : ops[acc.size]? = some x := by simpa using hl 0 x rfl
          obtain rfl : x = o' := Option.some.inj (hx.symm.trans ho')
          simp only [Array.getD_eq_getD_getElem?, Array.getElem?_push_size, Option.getD_some] at hj'
          have inner : ∀ (es : List Edge) (s : Nat), (∀ e ∈ es, e ∈ x.after) → (∀ j, s.testBit j = true → L j = true) →
              ∀ j, (es.foldl (fun s e => if Region.binds .any e then s ||| 2 ^ e.on ||| acc.getD e.on 0 else s) s).testBit j = true → L j = true := by
            intro es
            induction es with
            | nil => intro s _ hs j hj; exact hs j hj
            | cons e es ihe =>
              intro s hes hs j hj
              simp only [List.foldl_cons] at hj
              refine ihe _ (fun e' he' => hes e' (List.mem_cons_of_mem _ he')) (fun j' hj' => ?_) j hj
              split at hj'
              · rename_i hb
                have hon := hd' e (hes e List.mem_cons_self) hb
                rw [testBit_or, testBit_or, Bool.or_eq_true, Bool.or_eq_true] at hj'
                rcases hj' with (h1 | h1) | h1
                · exact hs j' h1
                · rw [Nat.testBit_two_pow] at h1
                  have : e.on = j' := by simpa using h1
                  rw [← this]; exact hon
                · by_cases hlt : e.on < acc.size
                  · cases hoe : ops[e.on]? with
                    | none =>
                      have hsz : ops[acc.size]? = some x := hx
                      have h3 := (Array.getElem?_eq_some_iff.1 hsz).1
                      rw [Array.getElem?_eq_none_iff] at hoe
                      omega
                    | some oe => exact h e.on oe hlt hoe (hL e.on oe hoe hon) j' h1
                  · rw [Array.getD_eq_getD_getElem?, Array.getElem?_eq_none (by omega)] at h1
                    simp at h1
              · exact hs j' hj'
          rw [← Array.foldl_toList] at hj'
          refine inner x.after.toList 0 (fun e he => by simpa using he) (fun j hj => by simp at hj) j' ?_
          simpa only [Array.getD_eq_getD_getElem?] using hj'
        · refine h i' o' (by omega) ho' hd' j' ?_
          rw [Array.getD_eq_getD_getElem?, Array.getElem?_push_lt (by omega)] at hj'
          rw [Array.getD_eq_getD_getElem?, Array.getElem?_eq_getElem (by omega)]
          exact hj'
  intro i o ho hd j hj
  have hlt := (Array.getElem?_eq_some_iff.1 ho).1
  have := key ops.toList #[] (fun k o hk => by simpa using hk) (fun i o hi => absurd hi (by simp)) i o (by simpa using hlt) ho hd j
  apply this
  unfold Region.before at hj
  rw [← Array.foldl_toList] at hj
  exact hj

theorem frameOf_defers (σ : Nat → Value) (L : Nat → Bool) (a : Act) (k : Nat) : (frameOf ops σ L a k).defers = a.defers := by
  induction k with
  | zero => rfl
  | succ k ih =>
    simp only [frameOf]
    split
    · cases h : (ops[k]?).bind (·.dst) <;> simp [Act.put, ih]
    · exact ih
theorem frameOf_size (σ : Nat → Value) (L : Nat → Bool) (a : Act) (k : Nat) : (frameOf ops σ L a k).tmps.size = a.tmps.size := by
  induction k with
  | zero => rfl
  | succ k ih =>
    simp only [frameOf]
    split
    · cases h : (ops[k]?).bind (·.dst) <;> simp [Act.put, ih]
    · exact ih

theorem put_get (a : Act) (x : Option Tmp) (v : Value) (t : Tmp) : (a.put x v).tmps[t]? = if x = some t ∧ t < a.tmps.size then some v else a.tmps[t]? := by
  cases x with
  | none => simp [Act.put]
  | some d =>
    by_cases h : d = t
    · subst h
      by_cases hs : d < a.tmps.size
      · simp [Act.put, hs]
      · simp [Act.put, hs]
    · simp [Act.put, h]

/-- two frames read alike at a slot whose writers are done in both or in neither -/
theorem frameOf_alike (σ : Nat → Value) (L L' : Nat → Bool) (a : Act) (t : Tmp) (n : Nat) (h : ∀ j, j < n → (ops[j]?).bind (·.dst) = some t → L j = L' j) : (frameOf ops σ L a n).tmps[t]? = (frameOf ops σ L' a n).tmps[t]? := by
  induction n with
  | zero => rfl
  | succ k ih =>
    have ih' := ih (fun j hj => h j (by omega))
    by_cases hd : (ops[k]?).bind (·.dst) = some t
    · have := h k (by omega) hd
      simp only [frameOf, this]
      split
      · rw [put_get, put_get, frameOf_size, frameOf_size, ih']
      · exact ih'
    · simp only [frameOf]
      split <;> split
      · rw [put_get, put_get, if_neg (fun h => hd h.1), if_neg (fun h => hd h.1)]; exact ih'
      · rw [put_get, if_neg (fun h => hd h.1)]; exact ih'
      · rw [put_get, if_neg (fun h => hd h.1)]; exact ih'
      · exact ih'

theorem put_same {x y : Act} {d : Option Tmp} {u v : Value} (h : x.put d u = x.put d v) (hs : y.tmps.size = x.tmps.size) : y.put d u = y.put d v := by
  cases d with
  | none => rfl
  | some d =>
    by_cases hd : d < x.tmps.size
    · have h1 := congrArg (fun a : Act => a.tmps[d]?) h
      simp only [put_get] at h1
      have hd' : True ∧ d < x.tmps.size := ⟨trivial, hd⟩
      simp only [hd', and_self, if_true] at h1
      rw [Option.some.inj h1]
    · simp only [Act.put]
      have hd' : y.tmps.size ≤ d := by rw [hs]; exact Nat.le_of_not_lt hd
      have e : ∀ z : Value, y.tmps.setIfInBounds d z = y.tmps := fun z => by
        apply Array.ext
        · simp
        · intro k h1 h2
          rw [Array.getElem_setIfInBounds]
          · rw [if_neg (by intro e; subst e; exact absurd h2 (Nat.not_lt.2 hd'))]
      rw [e u, e v]

theorem put_comm' (a : Act) {x y : Option Tmp} (v u : Value) (h : ∀ d, x = some d → y ≠ some d) : (a.put x v).put y u = (a.put y u).put x v := Act.put_comm a v u h

theorem frameOf_set (hD : DetOk ops) (σ : Nat → Value) (L : Nat → Bool) (a : Act) (i : Nat) (hi : L i = false) (n : Nat) (hn : n ≤ ops.size) :
    frameOf ops σ (fun j => j == i || L j) a n = if i < n then (frameOf ops σ L a n).put ((ops[i]?).bind (·.dst)) (σ i) else frameOf ops σ L a n := by
  induction n with
  | zero => simp [frameOf]
  | succ k ih =>
    have ih' := ih (by omega)
    simp only [frameOf]
    by_cases hk : k = i
    · subst hk
      rw [if_neg (by omega)] at ih'
      simp [ih', hi]
    · have e : (k == i || L k) = L k := by simp [hk]
      simp only [e]
      by_cases hlt : i < k
      · rw [if_pos hlt] at ih'
        rw [if_pos (show i < k + 1 by omega), ih']
        split
        · refine put_comm' _ _ _ fun d hd hd' => ?_
          cases ho : ops[i]? with
          | none => simp [ho] at hd
          | some oi =>
            cases hp : ops[k]? with
            | none => simp [hp] at hd'
            | some ok =>
              simp only [ho, hp, Option.bind_some] at hd hd'
              exact hD.dst k i ok oi hp ho hk d hd hd'
        · rfl
      · rw [if_neg hlt] at ih'
        rw [if_neg (show ¬ i < k + 1 by omega), ih']

theorem frameOf_all (σ : Nat → Value) (L L' : Nat → Bool) (a : Act) (n : Nat) (h : ∀ j, j < n → L j = L' j) : frameOf ops σ L a n = frameOf ops σ L' a n := by
  induction n with
  | zero => rfl
  | succ k ih => simp only [frameOf, ih (fun j hj => h j (by omega)), h k (by omega)]

theorem frameOf_more (σ : Nat → Value) (L : Nat → Bool) (a : Act) (i n : Nat) (hin : i ≤ n) (h : ∀ j, i ≤ j → L j = false) : frameOf ops σ L a n = frameOf ops σ L a i := by
  induction n with
  | zero => obtain rfl : i = 0 := by omega
            rfl
  | succ k ih =>
    by_cases hk : i = k + 1
    · rw [hk]
    · simp only [frameOf, h k (by omega)]
      simpa using ih (by omega)

/-- the text's order: the first i are done -/
def upto (i : Nat) : Nat → Bool := fun j => decide (j < i)

/-- out of the walk in the text's order: the values, one an operation -/
theorem wpDet_values (Inv : World → Prop) (R : Act → World → Prop) : ∀ (l : List Oper) (k : Nat) (a : Act) (σ : Nat → Value),
    (∀ j o, l[j]? = some o → ops[k + j]? = some o) → k + l.length = ops.size →
    wpDet P ops Inv R l (frameOf ops σ (upto k) a k) →
    ∃ σ' : Nat → Value, (∀ j, j < k → σ' j = σ j) ∧
      (∀ j o, k ≤ j → ops[j]? = some o → (Region.wanted o (yielded ops (frameOf ops σ' (upto j) a j).tmps) = true ∧ OpDet P Inv o (frameOf ops σ' (upto j) a j) (σ' j)) ∨
        (Region.wanted o (yielded ops (frameOf ops σ' (upto j) a j).tmps) = false ∧ σ' j = undef)) ∧
      ∀ w, Inv w → R (frameOf ops σ' (upto ops.size) a ops.size) w := by
  intro l
  induction l with
  | nil =>
    intro k a σ _ hk h
    simp only [List.length_nil, Nat.add_zero] at hk
    subst hk
    exact ⟨σ, fun _ _ => rfl, fun j o hj ho => absurd (Array.getElem?_eq_some_iff.1 ho).1 (by omega), h⟩
  | cons o l ih =>
    intro k a σ hl hk h
    have ho : ops[k]? = some o := by simpa using hl 0 o rfl
    have frame_eq : ∀ (σ' : Nat → Value) (j : Nat), (∀ i, i < j → σ' i = σ i) → frameOf ops σ' (upto j) a j = frameOf ops σ (upto j) a j := by
      intro σ' j hσ
      have : ∀ n, n ≤ j → frameOf ops σ' (upto j) a n = frameOf ops σ (upto j) a n := by
        intro n
        induction n with
        | zero => intro _; rfl
        | succ n ihn =>
          intro hn
          simp only [frameOf, ihn (by omega), hσ n (by omega)]
      exact this j (Nat.le_refl _)
    have next : ∀ v, frameOf ops (fun j => if j = k then v else σ j) (upto (k + 1)) a (k + 1) = (frameOf ops σ (upto k) a k).put o.dst v := by
      intro v
      have e1 : frameOf ops (fun j => if j = k then v else σ j) (upto (k + 1)) a k = frameOf ops σ (upto k) a k := by
        have : ∀ n, n ≤ k → frameOf ops (fun j => if j = k then v else σ j) (upto (k + 1)) a n = frameOf ops σ (upto k) a n := by
          intro n
          induction n with
          | zero => intro _; rfl
          | succ n ihn =>
            intro hn
            have u1 : upto (k + 1) n = true := by simp [upto]; omega
            have u2 : upto k n = true := by simp [upto]; omega
            simp only [frameOf, u1, u2, if_true, ihn (by omega), if_neg (show ¬ n = k by omega)]
        exact this k (Nat.le_refl _)
      have u1 : upto (k + 1) k = true := by simp [upto]
      simp only [frameOf, u1, if_true, e1, ho, Option.bind_some]
    simp only [wpDet] at h
    have hl' : ∀ j o', l[j]? = some o' → ops[k + 1 + j]? = some o' := fun j o' hj => by
      have := hl (j + 1) o' (by simpa using hj)
      simpa [Nat.add_assoc, Nat.add_comm 1 j] using this
    by_cases hw : Region.wanted o (yielded ops (frameOf ops σ (upto k) a k).tmps) = true
    · rw [if_pos hw] at h
      obtain ⟨v, hv, hrest⟩ := h
      obtain ⟨σ', h1, h2, h3⟩ := ih (k + 1) a (fun j => if j = k then v else σ j) hl' (by simp at hk; omega) (by rw [next]; exact hrest)
      have h1' : ∀ j, j < k → σ' j = σ j := fun j hj => by rw [h1 j (by omega), if_neg (by omega)]
      have hk1 : σ' k = v := by rw [h1 k (by omega), if_pos rfl]
      refine ⟨σ', h1', fun j o' hj ho' => ?_, h3⟩
      by_cases hjk : j = k
      · subst hjk
        obtain rfl : o = o' := Option.some.inj (ho.symm.trans ho')
        rw [frame_eq σ' j h1', hk1]
        exact .inl ⟨hw, hv⟩
      · exact h2 j o' (by omega) ho'
    · rw [if_neg hw] at h
      obtain ⟨σ', h1, h2, h3⟩ := ih (k + 1) a (fun j => if j = k then undef else σ j) hl' (by simp at hk; omega) (by rw [next]; exact h)
      have h1' : ∀ j, j < k → σ' j = σ j := fun j hj => by rw [h1 j (by omega), if_neg (by omega)]
      have hk1 : σ' k = undef := by rw [h1 k (by omega), if_pos rfl]
      refine ⟨σ', h1', fun j o' hj ho' => ?_, h3⟩
      by_cases hjk : j = k
      · subst hjk
        obtain rfl : o = o' := Option.some.inj (ho.symm.trans ho')
        rw [frame_eq σ' j h1', hk1]
        exact .inr ⟨by simpa using hw, rfl⟩
      · exact h2 j o' (by omega) ho'

theorem eval_alike {a a' : Act} {o : Oper} (h : ∀ t ∈ o.looksAt ops, a.tmps[t]? = a'.tmps[t]?) : ∀ x ∈ o.op.operands, a.eval x = a'.eval x := by
  intro x hx
  cases x with
  | tmp t =>
    have := h t (List.mem_append_left _ (List.mem_filterMap.2 ⟨.tmp t, by simpa using hx, rfl⟩))
    simp only [Act.eval, Array.getD_eq_getD_getElem?, this]
  | _ => rfl
theorem wanted_alike {a a' : Act} {o : Oper} (h : ∀ t ∈ o.looksAt ops, a.tmps[t]? = a'.tmps[t]?) : Region.wanted o (yielded ops a.tmps) = Region.wanted o (yielded ops a'.tmps) := by
  unfold Region.wanted
  cases hg : o.guard with
  | none => rfl
  | some gw =>
    obtain ⟨g, want⟩ := gw
    have hy : yielded ops a.tmps g = yielded ops a'.tmps g := by
      unfold yielded
      cases ht : (ops[g]?).bind (·.dst) with
      | none => rfl
      | some t =>
        have := h t (List.mem_append_right _ (by simp [hg, ht]))
        simp [this]
    simp only [hy]

def left (n : Nat) (listed : Array Bool) : Nat := (List.range n).countP fun i => !listed.getD i true

theorem left_set {n : Nat} {listed : Array Bool} {i : Nat} (hi : i < n) (h : listed.getD i true = false) : left n (listed.setIfInBounds i true) < left n listed := by
  unfold left
  have hlt : i < listed.size := by
    rcases Nat.lt_or_ge i listed.size with h' | h'
    · exact h'
    · rw [Array.getD_eq_getD_getElem?, Array.getElem?_eq_none h'] at h; cases h
  have hset : ∀ j, (listed.setIfInBounds i true).getD j true = (j == i || listed.getD j true) := by
    intro j
    by_cases hj : i = j
    · subst hj; simp [Array.getD_eq_getD_getElem?, hlt]
    · rw [getD_set_ne true hj]; simp [Ne.symm hj]
  have hmem : i ∈ List.range n := List.mem_range.2 hi
  have hnd : (List.range n).Nodup := List.nodup_range
  generalize List.range n = l at *
  induction l with
  | nil => cases hmem
  | cons x l ih =>
    rw [List.countP_cons, List.countP_cons]
    rw [List.nodup_cons] at hnd
    by_cases hx : x = i
    · subst hx
      have : l.countP (fun j => !(listed.setIfInBounds x true).getD j true) = l.countP (fun j => !listed.getD j true) := by
        apply List.countP_congr
        intro j hj
        have : j ≠ x := fun e => hnd.1 (e ▸ hj)
        rw [hset]; simp [this]
      rw [this, hset]
      simp [h]
    · have := ih (by simpa [Ne.symm hx] using hmem) hnd.2
      rw [hset]
      simp only [beq_eq_false_iff_ne.2 hx, Bool.false_or]
      omega

theorem wpAny_det {Q : Exit → Act → World → Prop} (hD : DetOk ops) (Inv : World → Prop) (a : Act) (σ : Nat → Value)
    (hops : ∀ j o, ops[j]? = some o → (Region.wanted o (yielded ops (frameOf ops σ (upto j) a j).tmps) = true ∧ OpDet P Inv o (frameOf ops σ (upto j) a j) (σ j)) ∨
        (Region.wanted o (yielded ops (frameOf ops σ (upto j) a j).tmps) = false ∧ σ j = undef))
    (hend : ∀ w, Inv w → Q .normal (frameOf ops σ (upto ops.size) a ops.size) w) :
    ∀ (fuel : Nat) (listed : Array Bool) (w : World), left ops.size listed ≤ fuel → listed.size = ops.size → Closed ops (fun i => listed.getD i false) → Inv w →
      wpAny P .any ops Q fuel listed (frameOf ops σ (fun i => listed.getD i false) a ops.size) w := by
  have same : ∀ (listed : Array Bool), listed.size = ops.size → ∀ i, i < ops.size → listed.getD i true = listed.getD i false := by
    intro listed hs i hi
    simp [Array.getD_eq_getD_getElem?, Array.getElem?_eq_getElem (show i < listed.size by omega)]
  -- where nothing is ready all is done
  have done : ∀ (listed : Array Bool), listed.size = ops.size → Region.ready .any ops listed = [] → ∀ i, i < ops.size → listed.getD i false = true := by
    intro listed hs hr i
    induction i using Nat.strongRecOn with
    | _ i ih =>
      intro hi
      cases hb : listed.getD i false with
      | true => rfl
      | false =>
        exfalso
        have hm : i ∈ Region.ready .any ops listed := by
          rw [mem_ready]
          refine ⟨by rw [same listed hs i hi]; exact hb, ops[i], Array.getElem?_eq_getElem hi, fun e he hbd => ?_⟩
          have hlt := hD.back i _ (Array.getElem?_eq_getElem hi) e he hbd
          exact ih e.on hlt (by omega)
        rw [hr] at hm
        cases hm
  have fin : ∀ (listed : Array Bool) (w : World), listed.size = ops.size → Region.ready .any ops listed = [] → Inv w → Q .normal (frameOf ops σ (fun i => listed.getD i false) a ops.size) w := by
    intro listed w hs hr hw
    have := frameOf_all (ops := ops) σ (fun i => listed.getD i false) (upto ops.size) a ops.size (fun j hj => by rw [done listed hs hr j hj]; simp [upto, hj])
    rw [this]
    exact hend w hw
  intro fuel
  induction fuel with
  | zero =>
    intro listed w hf hs hcl hw
    have hr : Region.ready .any ops listed = [] := by
      cases h : Region.ready .any ops listed with
      | nil => rfl
      | cons x xs =>
        exfalso
        have hx : x ∈ Region.ready .any ops listed := by rw [h]; exact List.mem_cons_self
        obtain ⟨h0, o, ho, _⟩ := mem_ready.1 hx
        have := left_set (n := ops.size) (Array.getElem?_eq_some_iff.1 ho).1 h0
        omega
    exact ⟨hr, fin listed w hs hr hw⟩
  | succ fuel ih =>
    intro listed w hf hs hcl hw
    refine ⟨fun hr => fin listed w hs hr hw, fun i hi => ?_⟩
    obtain ⟨h0, o, ho, hall⟩ := mem_ready.1 hi
    have hlt := (Array.getElem?_eq_some_iff.1 ho).1
    have hLi : listed.getD i false = false := by rw [← same listed hs i hlt]; exact h0
    -- the frame at hand reads as the text's own at what this operation looks at
    have alike : ∀ t ∈ o.looksAt ops, (frameOf ops σ (fun i => listed.getD i false) a ops.size).tmps[t]? = (frameOf ops σ (upto i) a i).tmps[t]? := by
      intro t ht
      rw [← frameOf_more (ops := ops) σ (upto i) a i ops.size (by omega) (fun j hj => by simp [upto]; omega)]
      refine frameOf_alike σ _ _ a t _ fun j hj hd => ?_
      have hp : ops[j]? = some ops[j] := Array.getElem?_eq_getElem hj
      rw [hp, Option.bind_some] at hd
      by_cases hij : i = j
      · subst hij
        simp [upto, hLi]
      · rcases hD.dep i j o _ t ho hp hd ht hij with ⟨hlt', hb⟩ | ⟨hlt', hb⟩
        · have := before_spec (fun i => listed.getD i false) hcl i o ho hall j hb
          rw [this]
          simp [upto, hlt']
        · cases hj' : listed.getD j false with
          | false => simp [upto]; omega
          | true =>
            exfalso
            have := before_spec (fun i => listed.getD i false) hcl j _ hp (hcl j _ hp hj') i hb
            rw [hLi] at this
            cases this
    have hnext : ∀ w', Inv w' → wpAny P .any ops Q fuel (listed.setIfInBounds i true) ((frameOf ops σ (fun i => listed.getD i false) a ops.size).put o.dst (σ i)) w' := by
      intro w' hw'
      have hset : (fun j => (listed.setIfInBounds i true).getD j false) = fun j => j == i || listed.getD j false := by
        funext j
        by_cases hj : i = j
        · subst hj; simp [Array.getD_eq_getD_getElem?, hs, hlt]
        · rw [getD_set_ne false hj]; simp [Ne.symm hj]
      have := ih (listed.setIfInBounds i true) w' (by have := left_set (n := ops.size) hlt h0; omega) (by simpa using hs) (by
        rw [hset]
        intro j oj hoj hj e he hb
        simp only [Bool.or_eq_true, beq_iff_eq] at hj ⊢
        rcases hj with rfl | hj
        · obtain rfl : o = oj := Option.some.inj (ho.symm.trans hoj)
          exact .inr (hall e he hb)
        · exact .inr (hcl j oj hoj hj e he hb)) hw'
      rw [hset, frameOf_set hD σ _ a i hLi ops.size (Nat.le_refl _), if_pos hlt, ho, Option.bind_some] at this
      exact this
    have hns := Region.noSelect_spec hD.nosel i o
    have hex : execOp (frameOf ops σ (fun i => listed.getD i false) a ops.size).eval o = execOp (frameOf ops σ (upto i) a i).eval o :=
      execOp_congr o (fun cs b => hns cs b ho) (eval_alike alike)
    unfold wpOp
    simp only [ho]
    rw [wanted_alike alike]
    rcases hops i o ho with ⟨hwt, hdet⟩ | ⟨hwt, hu⟩
    · simp only [hwt, if_true]
      left
      unfold Oper.wp
      rw [hex]
      have hsz : (frameOf ops σ (fun i => listed.getD i false) a ops.size).tmps.size = (frameOf ops σ (upto i) a i).tmps.size := by rw [frameOf_size, frameOf_size]
      have := hdet w hw
      generalize (execOp (frameOf ops σ (upto i) a i).eval o).run P w = r at *
      cases r with
      | ok n w' =>
        cases n with
        | value u => obtain ⟨hu, hi'⟩ := this; simp only [Oper.upon]; rw [put_same hu hsz]; exact hnext w' hi'
        | skip => obtain ⟨hu, hi'⟩ := this; simp only [Oper.upon]; rw [put_same hu hsz]; exact hnext w' hi'
        | enter f args =>
          simp only [Oper.upon]
          exact Calls.mono this fun e w'' ⟨u, he, hu, hi'⟩ => by subst he; show wpAny _ _ _ _ _ _ _ _; rw [put_same hu hsz]; exact hnext w'' hi'
        | row row args =>
          simp only [Oper.upon]
          exact Rows.mono this fun u w'' ⟨hu, hi'⟩ => by rw [put_same hu hsz]; exact hnext w'' hi'
        | _ => exact this.elim
      | halt x w' => exact this.elim
    · simp only [hwt, Bool.false_eq_true, if_false]
      rw [← hu]
      exact hnext w hw

/-- A region that draws, walked once. -/
theorem wp_region_det {id : Nat} {l : List Oper} {Q : Exit → Act → World → Prop} {a : Act} {w : World} (Inv : World → Prop) (hm : P.follows .mixedOrders = true) (hD : detOk l.toArray = true)
    (hw : Inv { w with drawn := w.drawn + 1 }) (h : wpDet P l.toArray Inv (Q .normal) l a) : (Code.region id l.toArray true).wp P Q a w := by
  obtain ⟨σ, _, h2, h3⟩ := wpDet_values (P := P) (ops := l.toArray) Inv (Q .normal) l 0 a (fun _ => undef) (fun j o hj => by simpa using hj) (by simp) (by simpa [frameOf] using h)
  refine wp_region_any hm ?_
  have hF : frameOf l.toArray σ (fun i => (Array.replicate l.toArray.size false).getD i false) a l.toArray.size = a := by
    have hz : ∀ i, (Array.replicate l.toArray.size false).getD i false = false := by
      intro i
      rw [Array.getD_eq_getD_getElem?, Array.getElem?_replicate]
      split <;> rfl
    have : ∀ n, frameOf l.toArray σ (fun i => (Array.replicate l.toArray.size false).getD i false) a n = a := by
      intro n
      induction n with
      | zero => rfl
      | succ n ih =>
        have hz' := hz n
        simp only [frameOf]
        rw [if_neg (by rw [hz']; decide)]
        exact ih
    exact this _
  have := wpAny_det (P := P) (Q := Q) (detOk_spec hD) Inv a σ (fun j o ho => h2 j o (Nat.zero_le _) ho) h3 l.toArray.size (Array.replicate l.toArray.size false) { w with drawn := w.drawn + 1 }
    (by unfold left; exact Nat.le_trans (List.countP_le_length) (by simp)) (by simp) (by
      intro i o _ hi
      exfalso
      simp only [Array.getD_eq_getD_getElem?, Array.getElem?_replicate] at hi
      split at hi <;> cases hi) hw
  rw [hF] at this
  exact this

/-! ### the steps -/
variable {Inv : World → Prop} {R : Act → World → Prop} {a : Act} {o : Oper} {rest : List Oper}
theorem wpDet_nil (h : ∀ w, Inv w → R a w) : wpDet P ops Inv R [] a := h
theorem wpDet_skip (hw : Region.wanted o (yielded ops a.tmps) = false) (h : wpDet P ops Inv R rest (a.put o.dst undef)) : wpDet P ops Inv R (o :: rest) a := by
  simp only [wpDet, hw]
  exact h
theorem wpDet_step {a' : Act} (hw : Region.wanted o (yielded ops a.tmps) = true)
    (hv : ∀ w, Inv w → ∀ K : Act → World → Prop, (∀ w', Inv w' → K a' w') → o.wp P a w K fun _ _ _ => False) (hp : a' = a.put o.dst (a'.tmps.getD (o.dst.getD 0) undef))
    (h : wpDet P ops Inv R rest a') : wpDet P ops Inv R (o :: rest) a := by
  generalize a'.tmps.getD (o.dst.getD 0) undef = v at hp
  subst hp
  simp only [wpDet, hw, if_true]
  refine ⟨v, fun w hI => ?_, h⟩
  have := hv w hI (fun x y => x = a.put o.dst v ∧ Inv y) (fun w' h => ⟨rfl, h⟩)
  unfold Oper.wp at this
  generalize (execOp a.eval o).run P w = r at *
  cases r with
  | ok n w' =>
    cases n with
    | value u => exact this
    | skip => exact this
    | enter f args =>
      simp only [Oper.upon] at this
      refine Calls.mono this fun e w'' he => ?_
      cases e with
      | returned u => exact ⟨u, rfl, he⟩
      | panicked c => exact he.elim
      | outgrown => obtain ⟨_, _, he⟩ := he; exact he.elim
    | row row args => exact this
    | defer d =>
      have h1 := congrArg Act.defers this.1
      cases hd : o.dst <;> simp [Act.put, hd] at h1
    | _ => exact this.elim
  | halt x w' => cases x <;> exact this.elim
end
attribute [irreducible] wpDet OpDet
end Go.Proofs.YtoedlabfiialfaaGreat
