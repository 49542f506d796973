/-
  The argument of the laws opened: a program's data out of what a value of spec.Program is read as.
-/
import Derived.Test.YtoedlabfiialfaaGreatData
import Derived.Lib.SmallJoins
import Derived.SliceStrings
import Derived.ProofKit
import Derived.OpenShut
import Derived.ChangeSame
import Derived.Deep.Slices
import Derived.Deep.Fields
import Derived.DataShut
namespace Go.Proofs.YtoedlabfiialfaaGreat
open Go.ChangeShapes Go.WideShapes Go.ChangeAt Go.RowKit Go.Joins Go.Deep

section
variable {H : Type} {enc : TypeId × Value → H} {P : Program} {w : World} {base : Nat} {spare : Nat → Bool} {held : Bool}
theorem open_slice_fields {t e : TypeId} {fs : Array Field} {fuel : Nat} {cs : List Value} {x : DataW H × List MemPlace} (ht : P.underlying t = some (.slice e)) (he : P.underlying e = some (.struct fs))
    (hone : oneCellFields P fs = true) (hC : P.cellsOf e = fs.size) (h : DataW.trod enc P w base spare held fuel t cs = some x) :
    (cs = [.slice none 0 0] ∧ x = (.nil, [])) ∨
    ∃ (a : Addr) (len cap m : Nat) (D : Nat → DataW H) (Pl : Nat → List MemPlace), cs = [.slice (some a) len cap] ∧ base ≤ a.block ∧ len ≤ cap ∧ cap ≤ maxLen ∧ m = (if spare a.block then cap else len) ∧
      x = (.slice ((List.range len).map D) ((List.range (m - len)).map fun j => D (len + j)), MemPlace.row a (m * fs.size) ++ (List.range m).flatMap Pl) ∧
      ∀ i, i < m → ∃ (ys : List (DataW H × List MemPlace)) (n : Nat), D i = .agg (ys.map (·.1)) ∧ Pl i = ys.flatMap (·.2) ∧ ys.length = fs.size ∧
        ∀ (j : Nat) (f : Field), fs[j]? = some f → ∃ (v : Value) (y : DataW H × List MemPlace), w.cell? (a.add (i * fs.size + j)) = some v ∧ ys[j]? = some y ∧ DataW.trod enc P w base spare held n f.type [v] = some y := by
  rcases open_slice ht h with h0 | ⟨a, len, cap, m, n, D, Pl, hcs, hb, hl, hm, hmm, hx, hi⟩
  · exact .inl h0
  · refine .inr ⟨a, len, cap, m, D, Pl, hcs, hb, hl, hm, hmm, by rw [hC] at hx; exact hx, fun i him => ?_⟩
    obtain ⟨cs', hc, ht'⟩ := hi i him
    rw [hC] at hc
    obtain ⟨ys, n', hn', hy, hlen, hyl, hf⟩ := DataW.trod_struct he ht'
    obtain ⟨_, hcl, hat⟩ := World.cells?_some hc
    simp only [Prod.mk.injEq] at hy
    refine ⟨ys, n', hy.1, hy.2, hyl, fun j f hj => ?_⟩
    obtain ⟨ho, hk⟩ := hone_of hone j f hj
    have hjl : j < fs.size := (Array.getElem?_eq_some_iff.1 hj).1
    have hcell := hat j hjl
    have hv : cs'[j]? = some (cs'[j]'(by omega)) := List.getElem?_eq_getElem (by omega)
    have h1 := hf j f hj
    rw [ho, hk] at h1
    have hone' : (cs'.drop j).take 1 = [cs'[j]'(by omega)] := by
      rw [List.drop_eq_getElem_cons (by omega)]
      rfl
    rw [hone'] at h1
    have hys : ys[j]? = some (ys[j]'(by omega)) := List.getElem?_eq_getElem (by omega)
    refine ⟨_, _, ?_, hys, h1.trans hys⟩
    rw [← Go.Deep.add_add, hcell, hv]
theorem open_agg6 {r : Reach} {b0 : Nat} {t : TypeId} {f0 f1 f2 f3 f4 f5 : Field} {v : Value} {d : DataW H} {p : List MemPlace} (hs : P.underlying t = some (.struct #[f0, f1, f2, f3, f4, f5])) (hone : oneCellFields P #[f0, f1, f2, f3, f4, f5] = true) (hC : P.cellsOf t = 6)
    (hv : Value.okWide P w r b0 t v) (h : DataW.Trod enc P w base spare held t v d p) :
    ∃ (v0 v1 v2 v3 v4 v5 : Value) (y0 y1 y2 y3 y4 y5 : DataW H × List MemPlace) (n : Nat), v = .agg #[v0, v1, v2, v3, v4, v5] ∧ d = .agg [y0.1, y1.1, y2.1, y3.1, y4.1, y5.1] ∧ p = y0.2 ++ (y1.2 ++ (y2.2 ++ (y3.2 ++ (y4.2 ++ y5.2)))) ∧
      DataW.trod enc P w base spare held n f0.type [v0] = some y0 ∧ DataW.trod enc P w base spare held n f1.type [v1] = some y1 ∧ DataW.trod enc P w base spare held n f2.type [v2] = some y2 ∧ DataW.trod enc P w base spare held n f3.type [v3] = some y3 ∧ DataW.trod enc P w base spare held n f4.type [v4] = some y4 ∧ DataW.trod enc P w base spare held n f5.type [v5] = some y5 := by
  obtain ⟨cs, rfl, hsz⟩ := okWide_struct hs hv
  obtain ⟨l⟩ := cs
  match l, hsz.trans hC with
  | [c0, c1, c2, c3, c4, c5], _ =>
    obtain ⟨fuel, hf⟩ := h
    obtain ⟨xs, n, _, hx, _, hlen, hg⟩ := DataW.trod_struct hs hf
    obtain ⟨o0, k0⟩ := hone_of hone 0 f0 rfl
    obtain ⟨o1, k1⟩ := hone_of hone 1 f1 rfl
    obtain ⟨o2, k2⟩ := hone_of hone 2 f2 rfl
    obtain ⟨o3, k3⟩ := hone_of hone 3 f3 rfl
    obtain ⟨o4, k4⟩ := hone_of hone 4 f4 rfl
    obtain ⟨o5, k5⟩ := hone_of hone 5 f5 rfl
    match xs, hlen with
    | [y0, y1, y2, y3, y4, y5], _ =>
      simp only [Prod.mk.injEq] at hx
      exact ⟨c0, c1, c2, c3, c4, c5, y0, y1, y2, y3, y4, y5, n, rfl, by simpa using hx.1, by simpa using hx.2, by simpa [Value.cells, o0, k0] using hg 0 f0 rfl, by simpa [Value.cells, o1, k1] using hg 1 f1 rfl, by simpa [Value.cells, o2, k2] using hg 2 f2 rfl, by simpa [Value.cells, o3, k3] using hg 3 f3 rfl, by simpa [Value.cells, o4, k4] using hg 4 f4 rfl, by simpa [Value.cells, o5, k5] using hg 5 f5 rfl⟩
end

theorem list_of {α : Type} {Q : Nat → α → Prop} (n : Nat) (h : ∀ i, i < n → ∃ x, Q i x) : ∃ l : List α, l.length = n ∧ ∀ k (hk : k < l.length), Q k l[k] := by
  induction n with
  | zero => exact ⟨[], rfl, fun k hk => absurd hk (by simp)⟩
  | succ n ih =>
    obtain ⟨l, hl, hq⟩ := ih (fun i hi => h i (by omega))
    obtain ⟨x, hx⟩ := h n (by omega)
    refine ⟨l ++ [x], by simp [hl], fun k hk => ?_⟩
    rcases Nat.lt_or_ge k l.length with hk' | hk'
    · rw [List.getElem_append_left hk']
      exact hq k hk'
    · have : k = n := by simp at hk; omega
      subst this
      rw [List.getElem_append_right (by omega)]
      simpa [hl] using hx
theorem spot_none {w : World} {a : Addr} {v : Value} (h : w.cell? a = some v) : a.spot = none := by
  unfold World.cell? at h
  split at h
  · split at h
    · cases h
    · rename_i hs; simpa using hs
  · cases h
theorem add_zero (a : Addr) : a.add 0 = a := by simp [Addr.add]
theorem add_flat {w : World} {a : Addr} {n : Nat} {v : Value} (hs : a.spot = none) (h : w.cell? (a.add n) = some v) : ∃ b o, a = ⟨b, o, none⟩ ∧ w.cell? ⟨b, o + n, none⟩ = some v := by
  obtain ⟨b, o, s⟩ := a
  obtain rfl : s = none := hs
  exact ⟨b, o, rfl, by rwa [Addr.add_lit] at h⟩

section
variable {H : Type} {enc : TypeId × Value → H} {W : World}
theorem strSl_of {fuel : Nat} {v0 : Value} {y : DataW H × List MemPlace} (h : DataW.trod enc Tryz.prog W 0 (fun _ => true) true fuel 24 [v0] = some y) :
    ∃ A c l, v0 = .slice A l.length c ∧ l.length ≤ c ∧ c ≤ maxLen ∧ (∀ k (h : k < l.length), l[k].size ≤ maxLen) ∧ StrSl W W.heap.size A l := by
  rcases open_strings Tryz.underlying24 Tryz.underlying9 (by kernel_rfl) h with ⟨hcs, _⟩ | ⟨a, len, cap, ss, hcs, _, hl, hm, hz, _, hcell, hws⟩
  · refine ⟨none, 0, [], by simpa using hcs, by simp, by simp, fun k h => absurd h (by simp), fun k h => absurd h (by simp)⟩
  · have hlen : (ss.take len).length = len := by
      rw [List.length_take, hz, if_pos rfl]
      exact Nat.min_eq_left hl
    have hz' : ss.length = cap := by rw [hz, if_pos rfl]
    refine ⟨some a, cap, ss.take len, by rw [hlen]; simpa using hcs, by omega, by omega, fun k hk => ?_, fun k hk => ?_⟩
    · rw [List.getElem_take]
      exact hws _ (List.getElem_mem _)
    · have hs0 : a.spot = none := by
        have := hcell 0 (by omega)
        rw [add_zero] at this
        exact spot_none this
      obtain ⟨b, o, rfl, hc⟩ := add_flat hs0 (hcell k (by omega))
      refine ⟨b, o, rfl, World.block_lt_of_cell? W _ hc, ?_⟩
      rw [hc, List.getElem_take, List.getD, List.getElem?_eq_getElem (by omega)]
      rfl
theorem runSl_of {fuel : Nat} {v0 : Value} {y : DataW H × List MemPlace} (h : DataW.trod enc Tryz.prog W 0 (fun _ => true) true fuel 36 [v0] = some y) :
    ∃ A c l, v0 = .slice A l.length c ∧ RunOk W W.heap.size A l := by
  rcases open_slice_fields Tryz.underlying36 Tryz.underlying101 (by kernel_rfl) (by kernel_rfl) h with ⟨hcs, _⟩ | ⟨a, len, cap, m, D, Pl, hcs, _, hl, hm, hmm, _, hf⟩
  · exact ⟨none, 0, [], by simpa using hcs, ⟨by simp, fun k h => absurd h (by simp), fun k h => absurd h (by simp), fun k h => absurd h (by simp)⟩⟩
  · have hmc : m = cap := by rw [hmm, if_pos rfl]
    have hone : ∀ i, i < len → ∃ r : Run, r.q < 4294967296 ∧ (-2147483648 ≤ r.v ∧ r.v ≤ 2147483647) ∧ ∃ b o, a = ⟨b, o, none⟩ ∧ W.cell? ⟨b, o + i * 2, none⟩ = some (.int .u32 r.q) ∧ W.cell? ⟨b, o + i * 2 + 1, none⟩ = some (.int .i32 r.v) := by
      intro i hi
      have hs0 : a.spot = none := by
        obtain ⟨_, _, _, _, _, hj0⟩ := hf 0 (by omega)
        obtain ⟨_, _, c0, _, _⟩ := hj0 0 _ rfl
        rw [Nat.zero_mul, add_zero] at c0
        exact spot_none c0
      obtain ⟨ys, n, _, _, _, hj⟩ := hf i (by omega)
      obtain ⟨v0, y0, c0, _, t0⟩ := hj 0 _ rfl
      obtain ⟨v1, y1, c1, _, t1⟩ := hj 1 _ rfl
      obtain ⟨q, e0, _, wq⟩ := DataW.trod_int Tryz.underlying37 t0
      obtain ⟨z, e1, _, wz⟩ := DataW.trod_int Tryz.underlying21 t1
      simp only [List.cons.injEq, and_true] at e0 e1
      subst e0 e1
      obtain ⟨b, o, rfl, d0⟩ := add_flat hs0 c0
      obtain ⟨b', o', e, d1⟩ := add_flat rfl c1
      simp only [Addr.mk.injEq, and_true] at e
      obtain ⟨rfl, rfl⟩ := e
      rw [Lit.wf_int_iff] at wq wz
      simp [IntKind.min, IntKind.max, IntKind.signed, IntKind.bits] at wq wz
      refine ⟨⟨q.toNat, z⟩, by simp; omega, by simp; omega, b, o, rfl, ?_, ?_⟩
      · simp only [Int.toNat_of_nonneg wq.1]
        exact d0
      · exact d1
    obtain ⟨l, hll, hq⟩ := list_of len hone
    refine ⟨some a, cap, l, by rw [hll]; simpa using hcs, by omega, fun k hk => (hq k hk).1, fun k hk => (hq k hk).2.1, fun k hk => ?_⟩
    obtain ⟨_, _, b, o, rfl, h1, h2⟩ := hq k hk
    exact ⟨b, o, rfl, World.block_lt_of_cell? W _ h1, h1, h2⟩
theorem fnSl_of {fuel : Nat} {v0 : Value} {y : DataW H × List MemPlace} (h : DataW.trod enc Tryz.prog W 0 (fun _ => true) true fuel 23 [v0] = some y) :
    ∃ A c l, v0 = .slice A l.length c ∧ l.length ≤ c ∧ c ≤ maxLen ∧ FnSl W W.heap.size A l := by
  rcases open_slice_fields Tryz.underlying23 Tryz.underlying39 (by kernel_rfl) (by kernel_rfl) h with ⟨hcs, _⟩ | ⟨a, len, cap, m, D, Pl, hcs, _, hl, hm, hmm, _, hf⟩
  · exact ⟨none, 0, [], by simpa using hcs, by simp, by simp, fun k h => absurd h (by simp)⟩
  · have hmc : m = cap := by rw [hmm, if_pos rfl]
    have hone : ∀ i, i < len → ∃ f : Fn, ∃ b o, a = ⟨b, o, none⟩ ∧ FnAt W W.heap.size b (o + i * 5) f := by
      intro i hi
      have hs0 : a.spot = none := by
        obtain ⟨_, _, _, _, _, hj0⟩ := hf 0 (by omega)
        obtain ⟨_, _, c0, _, _⟩ := hj0 0 _ rfl
        rw [Nat.zero_mul, add_zero] at c0
        exact spot_none c0
      obtain ⟨ys, n, _, _, _, hj⟩ := hf i (by omega)
      obtain ⟨v0, y0, c0, _, t0⟩ := hj 0 _ rfl
      obtain ⟨v1, y1, c1, _, t1⟩ := hj 1 _ rfl
      obtain ⟨v2, y2, c2, _, t2⟩ := hj 2 _ rfl
      obtain ⟨v3, y3, c3, _, t3⟩ := hj 3 _ rfl
      obtain ⟨v4, y4, c4, _, t4⟩ := hj 4 _ rfl
      obtain ⟨s, e0, _, ws⟩ := DataW.trod_string Tryz.underlying9 t0
      obtain ⟨z, e1, _, wz⟩ := DataW.trod_int Tryz.underlying21 t1
      obtain ⟨A2, k2, l2, e2, r2⟩ := runSl_of t2
      obtain ⟨A3, k3, l3, e3, r3⟩ := runSl_of t3
      obtain ⟨q, e4, _, wq⟩ := DataW.trod_int Tryz.underlying37 t4
      simp only [List.cons.injEq, and_true] at e0 e1 e4
      subst e0 e1 e2 e3 e4
      obtain ⟨b, o, rfl, d0⟩ := add_flat hs0 c0
      rw [Addr.add_lit] at c1 c2 c3 c4
      rw [Lit.wf_int_iff] at wq wz
      simp [IntKind.min, IntKind.max, IntKind.signed, IntKind.bits] at wq wz
      refine ⟨⟨s, z, l2, l3, q.toNat⟩, b, o, rfl, World.block_lt_of_cell? W _ d0, d0, c1, ⟨A2, k2, c2, r2⟩, ⟨A3, k3, c3, r3⟩, ?_, ws, by simp; omega, by simp; omega⟩
      simp only [Int.toNat_of_nonneg wq.1]
      exact c4
    obtain ⟨l, hll, hq⟩ := list_of len hone
    refine ⟨some a, cap, l, by rw [hll]; simpa using hcs, by omega, by omega, fun k hk => ?_⟩
    obtain ⟨b, o, rfl, h1⟩ := hq k hk
    exact ⟨b, o, rfl, h1⟩
set_option maxRecDepth 100000 in
theorem pg_of {r : Reach} {b0 : Nat} {v : Value} {d : DataW H} {pl : List MemPlace} (hv : Value.okWide Tryz.prog W r b0 26 v) (h : DataW.Trod enc Tryz.prog W 0 (fun _ => true) true 26 v d pl) :
    ∃ FA SA fc sc p, v = pgv FA SA fc sc p ∧ PgOk W W.heap.size FA SA fc sc p := by
  obtain ⟨v0, v1, v2, v3, v4, v5, y0, y1, y2, y3, y4, y5, n, rfl, _, _, t0, t1, t2, t3, t4, t5⟩ := open_agg6 Tryz.underlying26 (by kernel_rfl) (by kernel_rfl) hv h
  obtain ⟨s, e0, _, ws⟩ := DataW.trod_int Tryz.underlying22 t0
  obtain ⟨FA, fc, fl, e1, f1, f2, f3⟩ := fnSl_of t1
  obtain ⟨SA, sc, sl, e2, s1, s2, s3, s4⟩ := strSl_of t2
  obtain ⟨bg, e3, _⟩ := DataW.trod_bool Tryz.underlying4 t3
  obtain ⟨wd, e4, _⟩ := DataW.trod_bool Tryz.underlying4 t4
  obtain ⟨q, e5, _, wq⟩ := DataW.trod_int Tryz.underlying3 t5
  simp only [List.cons.injEq, and_true] at e0 e3 e4 e5
  subst e0 e1 e2 e3 e4 e5
  rw [Lit.wf_int_iff] at ws wq
  simp [IntKind.min, IntKind.max, IntKind.signed, IntKind.bits] at ws wq
  refine ⟨FA, SA, fc, sc, ⟨s.toNat, fl, sl, bg, wd, q⟩, ?_, ⟨Nat.le_refl _, by simp; omega, by simp; omega, s3, by simp; omega, by simp; omega, f3, s4, f1, f2, s1, s2⟩⟩
  simp [pgv, Int.toNat_of_nonneg ws.1]
end
end Go.Proofs.YtoedlabfiialfaaGreat
