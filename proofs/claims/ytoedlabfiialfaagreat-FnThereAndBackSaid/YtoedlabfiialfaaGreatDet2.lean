/-
  A region that draws its order, whose operations give the same values in whatever order, but for its last one, which waits for all others (a store): it may be walked once, in the order of the text.
-/
import Derived.Test.YtoedlabfiialfaaGreatDet
namespace Go.Proofs.YtoedlabfiialfaaGreat
open Go.RowKit

section
variable {P : Program} {ops : Array Oper}

/-- the last operation waits for all others, and has no guard -/
def tailOk (ops : Array Oper) : Bool :=
  match ops[ops.size - 1]? with
  | some o => o.guard.isNone && (List.range (ops.size - 1)).all fun j => ((Region.before ops).getD (ops.size - 1) 0).testBit j
  | none => false

theorem wpAny_dett {Q : Exit → Act → World → Prop} (hD : DetOk ops) (n : Nat) (ol : Oper) (hn : ops.size = n + 1) (hol : ops[n]? = some ol) (hgd : ol.guard = none) (hbef : ∀ j, j < n → ((Region.before ops).getD n 0).testBit j = true)
    (Inv : World → Prop) (a : Act) (σ : Nat → Value)
    (hops : ∀ j o, j < n → ops[j]? = some o → (Region.wanted o (yielded ops (frameOf ops σ (upto j) a j).tmps) = true ∧ OpDet P Inv o (frameOf ops σ (upto j) a j) (σ j)) ∨
        (Region.wanted o (yielded ops (frameOf ops σ (upto j) a j).tmps) = false ∧ σ j = undef))
    (hend : ∀ w, Inv w → ol.wp P (frameOf ops σ (upto n) a n) w (fun a' w' => Q .normal a' w') Q) :
    ∀ (fuel : Nat) (listed : Array Bool) (w : World), left ops.size listed ≤ fuel → listed.size = ops.size → Closed ops (fun i => listed.getD i false) → listed.getD n false = false → Inv w →
      wpAny P .any ops Q fuel listed (frameOf ops σ (fun i => listed.getD i false) a ops.size) w := by
  have same : ∀ (listed : Array Bool), listed.size = ops.size → ∀ i, i < ops.size → listed.getD i true = listed.getD i false := by
    intro listed hs i hi
    simp [Array.getD_eq_getD_getElem?, Array.getElem?_eq_getElem (show i < listed.size by omega)]
  have done : ∀ (listed : Array Bool), listed.size = ops.size → Region.ready .any ops listed = [] → ∀ i, i < ops.size → listed.getD i false = true := by
    intro listed hs hr i
    induction i using Nat.strongRecOn with
    | _ i ih =>
      intro hi
      cases hb : listed.getD i false with
      | true => rfl
      | false =>
        exfalso
        have hm : i ∈ Region.ready .any ops listed := by
          rw [mem_ready]
          refine ⟨by rw [same listed hs i hi]; exact hb, ops[i], Array.getElem?_eq_getElem hi, fun e he hbd => ?_⟩
          have hlt := hD.back i _ (Array.getElem?_eq_getElem hi) e he hbd
          exact ih e.on hlt (by omega)
        rw [hr] at hm
        cases hm
  intro fuel
  induction fuel with
  | zero =>
    intro listed w hf hs hcl hln hw
    exfalso
    have hr : Region.ready .any ops listed = [] := by
      cases h : Region.ready .any ops listed with
      | nil => rfl
      | cons x xs =>
        exfalso
        have hx : x ∈ Region.ready .any ops listed := by rw [h]; exact List.mem_cons_self
        obtain ⟨h0, o, ho, _⟩ := mem_ready.1 hx
        have := left_set (n := ops.size) (Array.getElem?_eq_some_iff.1 ho).1 h0
        omega
    have := done listed hs hr n (by omega)
    rw [hln] at this
    cases this
  | succ fuel ih =>
    intro listed w hf hs hcl hln hw
    refine ⟨fun hr => ?_, fun i hi => ?_⟩
    · exfalso
      have := done listed hs hr n (by omega)
      rw [hln] at this
      cases this
    obtain ⟨h0, o, ho, hall⟩ := mem_ready.1 hi
    have hlt := (Array.getElem?_eq_some_iff.1 ho).1
    have hLi : listed.getD i false = false := by rw [← same listed hs i hlt]; exact h0
    by_cases hin : i = n
    · subst hin
      obtain rfl : o = ol := Option.some.inj (ho.symm.trans hol)
      have hallL : ∀ j, j < i → listed.getD j false = true := fun j hj => before_spec (fun i => listed.getD i false) hcl i o ho hall j (hbef j hj)
      have hfr : frameOf ops σ (fun i => listed.getD i false) a ops.size = frameOf ops σ (upto i) a i := by
        rw [hn]
        simp only [frameOf, hln, Bool.false_eq_true, if_false]
        exact frameOf_all (ops := ops) σ _ _ a i (fun j hj => by rw [hallL j hj]; simp [upto, hj])
      rw [hfr]
      unfold wpOp
      simp only [ho]
      rw [if_pos (by simp [Region.wanted, hgd])]
      left
      refine Oper.wp_mono (fun a' w' hq => ?_) (hend w hw)
      have hready : Region.ready .any ops (listed.setIfInBounds i true) = [] := by
        cases h : Region.ready .any ops (listed.setIfInBounds i true) with
        | nil => rfl
        | cons x xs =>
          exfalso
          have hx : x ∈ Region.ready .any ops (listed.setIfInBounds i true) := by rw [h]; exact List.mem_cons_self
          obtain ⟨h1, o', ho', _⟩ := mem_ready.1 hx
          have hxl := (Array.getElem?_eq_some_iff.1 ho').1
          by_cases hxi : i = x
          · subst hxi
            simp [Array.getD_eq_getD_getElem?, hs, hlt] at h1
          · rw [getD_set_ne true hxi, same listed hs x hxl, hallL x (by omega)] at h1
            cases h1
      cases fuel with
      | zero => exact ⟨hready, hq⟩
      | succ f => exact ⟨fun _ => hq, fun j hj => by rw [hready] at hj; cases hj⟩
    · have alike : ∀ t ∈ o.looksAt ops, (frameOf ops σ (fun i => listed.getD i false) a ops.size).tmps[t]? = (frameOf ops σ (upto i) a i).tmps[t]? := by
        intro t ht
        rw [← frameOf_more (ops := ops) σ (upto i) a i ops.size (by omega) (fun j hj => by simp [upto]; omega)]
        refine frameOf_alike σ _ _ a t _ fun j hj hd => ?_
        have hp : ops[j]? = some ops[j] := Array.getElem?_eq_getElem hj
        rw [hp, Option.bind_some] at hd
        by_cases hij : i = j
        · subst hij
          simp [upto, hLi]
        · rcases hD.dep i j o _ t ho hp hd ht hij with ⟨hlt', hb⟩ | ⟨hlt', hb⟩
          · have := before_spec (fun i => listed.getD i false) hcl i o ho hall j hb
            rw [this]
            simp [upto, hlt']
          · cases hj' : listed.getD j false with
            | false => simp [upto]; omega
            | true =>
              exfalso
              have := before_spec (fun i => listed.getD i false) hcl j _ hp (hcl j _ hp hj') i hb
              rw [hLi] at this
              cases this
      have hnext : ∀ w', Inv w' → wpAny P .any ops Q fuel (listed.setIfInBounds i true) ((frameOf ops σ (fun i => listed.getD i false) a ops.size).put o.dst (σ i)) w' := by
        intro w' hw'
        have hset : (fun j => (listed.setIfInBounds i true).getD j false) = fun j => j == i || listed.getD j false := by
          funext j
          by_cases hj : i = j
          · subst hj; simp [Array.getD_eq_getD_getElem?, hs, hlt]
          · rw [getD_set_ne false hj]; simp [Ne.symm hj]
        have := ih (listed.setIfInBounds i true) w' (by have := left_set (n := ops.size) hlt h0; omega) (by simpa using hs) (by
          rw [hset]
          intro j oj hoj hj e he hb
          simp only [Bool.or_eq_true, beq_iff_eq] at hj ⊢
          rcases hj with rfl | hj
          · obtain rfl : o = oj := Option.some.inj (ho.symm.trans hoj)
            exact .inr (hall e he hb)
          · exact .inr (hcl j oj hoj hj e he hb)) (by rw [getD_set_ne false hin]; exact hln) hw'
        rw [hset, frameOf_set hD σ _ a i hLi ops.size (Nat.le_refl _), if_pos hlt, ho, Option.bind_some] at this
        exact this
      have hns := Region.noSelect_spec hD.nosel i o
      have hex : execOp (frameOf ops σ (fun i => listed.getD i false) a ops.size).eval o = execOp (frameOf ops σ (upto i) a i).eval o :=
        execOp_congr o (fun cs b => hns cs b ho) (eval_alike alike)
      unfold wpOp
      simp only [ho]
      rw [wanted_alike alike]
      rcases hops i o (by omega) ho with ⟨hwt, hdet⟩ | ⟨hwt, hu⟩
      · simp only [hwt, if_true]
        left
        unfold Oper.wp
        rw [hex]
        have hsz : (frameOf ops σ (fun i => listed.getD i false) a ops.size).tmps.size = (frameOf ops σ (upto i) a i).tmps.size := by rw [frameOf_size, frameOf_size]
        unfold OpDet at hdet
        have := hdet w hw
        generalize (execOp (frameOf ops σ (upto i) a i).eval o).run P w = r at *
        cases r with
        | ok n w' =>
          cases n with
          | value u => obtain ⟨hu, hi'⟩ := this; simp only [Oper.upon]; rw [put_same hu hsz]; exact hnext w' hi'
          | skip => obtain ⟨hu, hi'⟩ := this; simp only [Oper.upon]; rw [put_same hu hsz]; exact hnext w' hi'
          | enter f args =>
            simp only [Oper.upon]
            exact Calls.mono this fun e w'' ⟨u, he, hu, hi'⟩ => by subst he; show wpAny _ _ _ _ _ _ _ _; rw [put_same hu hsz]; exact hnext w'' hi'
          | row row args =>
            simp only [Oper.upon]
            exact Rows.mono this fun u w'' ⟨hu, hi'⟩ => by rw [put_same hu hsz]; exact hnext w'' hi'
          | _ => exact this.elim
        | halt x w' => exact this.elim
      · simp only [hwt, Bool.false_eq_true, if_false]
        rw [← hu]
        exact hnext w hw

/-- the values of a part of the list, in the text's order; the rest is left -/
theorem wpDet_values_pre (Inv : World → Prop) (R : Act → World → Prop) : ∀ (l : List Oper) (k : Nat) (a : Act) (σ : Nat → Value),
    (∀ j o, l[j]? = some o → ops[k + j]? = some o) →
    wpDet P ops Inv R l (frameOf ops σ (upto k) a k) →
    ∃ σ' : Nat → Value, (∀ j, j < k → σ' j = σ j) ∧
      (∀ j o, k ≤ j → j < k + l.length → ops[j]? = some o → (Region.wanted o (yielded ops (frameOf ops σ' (upto j) a j).tmps) = true ∧ OpDet P Inv o (frameOf ops σ' (upto j) a j) (σ' j)) ∨
        (Region.wanted o (yielded ops (frameOf ops σ' (upto j) a j).tmps) = false ∧ σ' j = undef)) ∧
      ∀ w, Inv w → R (frameOf ops σ' (upto (k + l.length)) a (k + l.length)) w := by
  intro l
  induction l with
  | nil =>
    intro k a σ _ h
    simp only [wpDet] at h
    exact ⟨σ, fun _ _ => rfl, fun j o hj hj2 => absurd hj2 (by simp; omega), h⟩
  | cons o l ih =>
    intro k a σ hl h
    have ho : ops[k]? = some o := by simpa using hl 0 o rfl
    have frame_eq : ∀ (σ' : Nat → Value) (j : Nat), (∀ i, i < j → σ' i = σ i) → frameOf ops σ' (upto j) a j = frameOf ops σ (upto j) a j := by
      intro σ' j hσ
      have : ∀ n, n ≤ j → frameOf ops σ' (upto j) a n = frameOf ops σ (upto j) a n := by
        intro n
        induction n with
        | zero => intro _; rfl
        | succ n ihn =>
          intro hn
          simp only [frameOf, ihn (by omega), hσ n (by omega)]
      exact this j (Nat.le_refl _)
    have next : ∀ v, frameOf ops (fun j => if j = k then v else σ j) (upto (k + 1)) a (k + 1) = (frameOf ops σ (upto k) a k).put o.dst v := by
      intro v
      have e1 : frameOf ops (fun j => if j = k then v else σ j) (upto (k + 1)) a k = frameOf ops σ (upto k) a k := by
        have : ∀ n, n ≤ k → frameOf ops (fun j => if j = k then v else σ j) (upto (k + 1)) a n = frameOf ops σ (upto k) a n := by
          intro n
          induction n with
          | zero => intro _; rfl
          | succ n ihn =>
            intro hn
            have u1 : upto (k + 1) n = true := by simp [upto]; omega
            have u2 : upto k n = true := by simp [upto]; omega
            simp only [frameOf, u1, u2, if_true, ihn (by omega), if_neg (show ¬ n = k by omega)]
        exact this k (Nat.le_refl _)
      have u1 : upto (k + 1) k = true := by simp [upto]
      simp only [frameOf, u1, if_true, e1, ho, Option.bind_some]
    simp only [wpDet] at h
    have hl' : ∀ j o', l[j]? = some o' → ops[k + 1 + j]? = some o' := fun j o' hj => by
      have := hl (j + 1) o' (by simpa using hj)
      simpa [Nat.add_assoc, Nat.add_comm 1 j] using this
    have hlen : k + (o :: l).length = k + 1 + l.length := by simp; omega
    by_cases hw : Region.wanted o (yielded ops (frameOf ops σ (upto k) a k).tmps) = true
    · rw [if_pos hw] at h
      obtain ⟨v, hv, hrest⟩ := h
      obtain ⟨σ', h1, h2, h3⟩ := ih (k + 1) a (fun j => if j = k then v else σ j) hl' (by rw [next]; exact hrest)
      have h1' : ∀ j, j < k → σ' j = σ j := fun j hj => by rw [h1 j (by omega), if_neg (by omega)]
      have hk1 : σ' k = v := by rw [h1 k (by omega), if_pos rfl]
      refine ⟨σ', h1', fun j o' hj hj2 ho' => ?_, by rw [hlen]; exact h3⟩
      by_cases hjk : j = k
      · subst hjk
        obtain rfl : o = o' := Option.some.inj (ho.symm.trans ho')
        rw [frame_eq σ' j h1', hk1]
        exact .inl ⟨hw, hv⟩
      · exact h2 j o' (by omega) (by rw [← hlen]; exact hj2) ho'
    · rw [if_neg hw] at h
      obtain ⟨σ', h1, h2, h3⟩ := ih (k + 1) a (fun j => if j = k then undef else σ j) hl' (by rw [next]; exact h)
      have h1' : ∀ j, j < k → σ' j = σ j := fun j hj => by rw [h1 j (by omega), if_neg (by omega)]
      have hk1 : σ' k = undef := by rw [h1 k (by omega), if_pos rfl]
      refine ⟨σ', h1', fun j o' hj hj2 ho' => ?_, by rw [hlen]; exact h3⟩
      by_cases hjk : j = k
      · subst hjk
        obtain rfl : o = o' := Option.some.inj (ho.symm.trans ho')
        rw [frame_eq σ' j h1', hk1]
        exact .inr ⟨by simpa using hw, rfl⟩
      · exact h2 j o' (by omega) (by rw [← hlen]; exact hj2) ho'

/-- A region that draws, its last operation a store that waits for all others, walked once. -/
theorem wp_region_dett {id : Nat} {l : List Oper} {Q : Exit → Act → World → Prop} {a : Act} {w : World} (Inv : World → Prop) (n : Nat) (ol : Oper) (hm : P.follows .mixedOrders = true) (hD : detOk l.toArray = true) (ht : tailOk l.toArray = true) (hn : l.length = n + 1) (hol : l[n]? = some ol)
    (hw : Inv { w with drawn := w.drawn + 1 }) (h : wpDet P l.toArray Inv (fun a' w' => ol.wp P a' w' (fun a'' w'' => Q .normal a'' w'') Q) (l.take n) a) : (Code.region id l.toArray true).wp P Q a w := by
  have hlen : (l.take n).length = n := by rw [List.length_take]; omega
  obtain ⟨σ, _, h2, h3⟩ := wpDet_values_pre (P := P) (ops := l.toArray) Inv _ (l.take n) 0 a (fun _ => undef) (fun j o hj => by
    have hjl := (List.getElem?_eq_some_iff.1 hj).1
    rw [hlen] at hjl
    rw [List.getElem?_take_of_lt hjl] at hj
    simpa using hj) (by simpa [frameOf] using h)
  rw [hlen] at h2 h3
  simp only [Nat.zero_add] at h2 h3
  have hol' : l.toArray[n]? = some ol := by simpa using hol
  have hsz : l.toArray.size = n + 1 := by simpa using hn
  have htt : ol.guard = none ∧ ∀ j, j < n → ((Region.before l.toArray).getD n 0).testBit j = true := by
    unfold tailOk at ht
    rw [hsz, Nat.add_sub_cancel, hol'] at ht
    simp only [Bool.and_eq_true, Option.isNone_iff_eq_none, List.all_eq_true, List.mem_range] at ht
    exact ht
  refine wp_region_any hm ?_
  have hz : ∀ i, (Array.replicate l.toArray.size false).getD i false = false := by
    intro i
    rw [Array.getD_eq_getD_getElem?, Array.getElem?_replicate]
    split <;> rfl
  have hF : frameOf l.toArray σ (fun i => (Array.replicate l.toArray.size false).getD i false) a l.toArray.size = a := by
    have : ∀ n, frameOf l.toArray σ (fun i => (Array.replicate l.toArray.size false).getD i false) a n = a := by
      intro n
      induction n with
      | zero => rfl
      | succ n ih =>
        have hz' := hz n
        simp only [frameOf]
        rw [if_neg (by rw [hz']; decide)]
        exact ih
    exact this _
  have := wpAny_dett (P := P) (Q := Q) (detOk_spec hD) n ol hsz hol' htt.1 htt.2 Inv a σ (fun j o hj ho => h2 j o (Nat.zero_le _) hj ho) h3 l.toArray.size (Array.replicate l.toArray.size false) { w with drawn := w.drawn + 1 }
    (by unfold left; exact Nat.le_trans (List.countP_le_length) (by simp)) (by simp) (by
      intro i o _ hi
      exfalso
      have := hz i
      rw [show (Array.replicate l.toArray.size false).getD i false = true from hi] at this
      cases this) (hz n) hw
  rw [hF] at this
  exact this
end
end Go.Proofs.YtoedlabfiialfaaGreat
