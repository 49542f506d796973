/-
  Steps of a region that draws its order: appends of bytes; the bytes of a text with a nought behind.
-/
import Derived.Test.YtoedlabfiialfaaGreatPut
import Derived.ArgAppend
namespace Go.Proofs.YtoedlabfiialfaaGreat
open Go.RowKit

/-! ### what a region keeps -/
theorem sts_mk {Bb : Nat} {w w' : World} (h : Below Bb w w') : (∀ b o, b < Bb → w'.cell? ⟨b, o, none⟩ = w.cell? ⟨b, o, none⟩) ∧ Below Bb w w' := ⟨fun b o hb => h.cell (p := ⟨b, o, none⟩) hb, h⟩
theorem sts_next {Bb : Nat} {w w1 w' : World} (h : (∀ b o, b < Bb → w1.cell? ⟨b, o, none⟩ = w.cell? ⟨b, o, none⟩) ∧ Below Bb w w1) (hb : Below Bb w1 w') : (∀ b o, b < Bb → w'.cell? ⟨b, o, none⟩ = w.cell? ⟨b, o, none⟩) ∧ Below Bb w w' := sts_mk (h.2.trans hb)
theorem sts_alloc {Bb : Nat} {w w1 : World} {o : Obj} (hB : Bb ≤ w.heap.size) (h : (∀ b o, b < Bb → w1.cell? ⟨b, o, none⟩ = w.cell? ⟨b, o, none⟩) ∧ Below Bb w w1) : (∀ b o', b < Bb → (w1.alloc o).cell? ⟨b, o', none⟩ = w.cell? ⟨b, o', none⟩) ∧ Below Bb w (w1.alloc o) :=
  sts_mk (h.2.alloc (Nat.le_trans hB h.2.size) _)
theorem below_bytes (w : World) (e : TypeId) (s : ByteArray) : Below w.heap.size w (Lib.bytesWorld w e s) :=
  ⟨rfl, rfl, rfl, by rw [Lib.bytesWorld_size]; omega, fun k hk => Lib.bytesWorld_at_old w e s k hk⟩
theorem sts_bytes {Bb : Nat} {w w1 : World} {e : TypeId} {s : ByteArray} (hB : Bb ≤ w.heap.size) (h : (∀ b o, b < Bb → w1.cell? ⟨b, o, none⟩ = w.cell? ⟨b, o, none⟩) ∧ Below Bb w w1) : (∀ b o', b < Bb → (Lib.bytesWorld w1 e s).cell? ⟨b, o', none⟩ = w.cell? ⟨b, o', none⟩) ∧ Below Bb w (Lib.bytesWorld w1 e s) :=
  sts_mk (h.2.trans ((below_bytes w1 e s).mono (Nat.le_trans hB h.2.size)))

theorem wrap_small (N : Nat) (h : N ≤ 1000000) : IntKind.u64.wrap (N : Int) = (N : Int) := by
  simp only [IntKind.wrap, IntKind.bits, IntKind.signed]
  simp
  omega

theorem OwnB.toV {w : World} {base g cap n : Nat} {l : List UInt8} (h : OwnB w base g cap l) (hn : l.length = n) : OwnV w base (.slice (some ⟨g, 0, none⟩) n cap) l := by subst hn; exact h.row
theorem OwnV.slice {w : World} {base : Nat} {v : Value} {l : List UInt8} (h : OwnV w base v l) (hn : 0 < l.length) : ∃ g cap, v = .slice (some ⟨g, 0, none⟩) l.length cap := by
  obtain ⟨g, cap, h1, _⟩ := ownsRow_slice h hn
  exact ⟨g, cap, h1⟩

theorem add_nil (b j : Nat) : ((⟨b, 0, none⟩ : Addr).add j) = ⟨b, j, none⟩ := by unfold Addr.add; split <;> simp_all
theorem block_cells (w : World) (cs : List Value) (t : TypeId) : ∀ (j : Nat) (u : Value), cs[j]? = some u → (w.alloc (.cells cs.toArray t)).cell? ((⟨w.heap.size, 0, none⟩ : Addr).add j) = some u := by
  intro j u hj
  rw [add_nil, cell_of_row _ _ j _ _ _ (heap_alloc_new w _)]
  simpa using hj
theorem cells_keep {w w' : World} {g : Nat} {l : List Value} (h : ∀ (j : Nat) (u : Value), l[j]? = some u → w.cell? ((⟨g, 0, none⟩ : Addr).add j) = some u) (hg : g < w.heap.size) (hb : Below w.heap.size w w') :
    ∀ (j : Nat) (u : Value), l[j]? = some u → w'.cell? ((⟨g, 0, none⟩ : Addr).add j) = some u := by
  intro j u hj
  rw [add_nil] at *
  exact (hb.cell (p := ⟨g, j, none⟩) hg).trans (by have := h j u hj; rwa [add_nil] at this)

/-! ### append at a step -/
theorem wp_append_run {P : Program} {o : Oper} {a : Act} {w w' : World} {K : Act → World → Prop} {Q : Exit → Act → World → Prop} (s x : Operand) (t : TypeId)
    (ho : o.op = .call { callee := .builtin .append, args := #[s, x], argTypes := #[t, t] }) {vs vx v' : Value} (hs : a.eval s = vs) (hx : a.eval x = vx)
    (hr : (Builtin.append_ #[t, t] o.type #[vs, vx]).run P w = .ok v' w') (h : K (a.put o.dst v') w') : o.wp P a w K Q := by
  unfold Oper.wp execOp
  simp only [ho, resolve, invoke, builtin, Sem.run_bind, Sem.run_pure, Result.andThen_ok, List.map_toArray, List.map_cons, List.map_nil, hs, hx, hr]
  exact h
theorem step_app (w : World) {ops : Array Oper} {o : Oper} {a : Act} {K : Act → World → Prop} {Q : Exit → Act → World → Prop} {E : Prop} (hgd : o.guard = none) (s x : Operand)
    (ho : o.op = .call { callee := .builtin .append, args := #[s, x], argTypes := #[31, 31] })
    (base : Nat) (v : Value) (xs : List UInt8) (hs : a.eval s = v) (hown : OwnV w base v xs) (ad : Addr) (m c : Nat) (l : List UInt8) (hx : a.eval x = .slice (some ad) m c) (hm : m = l.length)
    (hcells : ∀ j u, (l.map bv)[j]? = some u → w.cell? (ad.add j) = some u) (hsz : xs.length + l.length ≤ 1000000) (hbase : base ≤ w.heap.size)
    (h : ∀ v' w', OwnV w' base v' (xs ++ l) → w.grownBy w' v.ownBlock → Below base w w' → (v'.ownBlock = v.ownBlock ∨ v'.ownBlock = some w.heap.size) → K (a.put o.dst v') w') :
    if Region.wanted o (yielded ops a.tmps) = true then Oper.wp Tryz.prog o a w K Q else E := by
  rw [if_pos (by simp [Region.wanted, hgd])]
  obtain ⟨i0, hi, hz0, hz1, hz2⟩ := info_parts infoByte
  obtain ⟨v', w', hr, h1, h2, _, h4⟩ := run_append_own_at (P := Tryz.prog) w base 31 o.type 5 i0 (.int .u8 0) 1 1 Tryz.underlying31 hi hz0 hz1 hz2 rfl (by decide) v xs.length (xs.map bv) hown ad m c (l.map bv) (by simp [hm]) hcells (bv_one l) (by unfold maxLen; omega) (by omega) hbase
  exact wp_append_run s x _ ho hs hx hr (h v' w' (ownsRow_len h1 (by simp [hm]) (by simp)) h2 ((Below.refl _ _).grown h2 hbase (fun k hk => (hown.lt k hk).1)) h4)

/-- a text's bytes and a nought behind them -/
theorem run_strz (c z : Nat) (f : ByteArray) (cap : Nat) (w : World) (cur : Array Value) (ty : TypeId) (hb : w.heap[c]? = some (.cells cur 5 (cur.size, cur.size + 1))) (hc : cur.size = cap)
    (hpre : ∀ (j : Nat) (u : Value), (f.data.toList.map bv)[j]? = some u → cur[j]? = some u) (hz : w.cell? ⟨z, 0, none⟩ = some (.int .u8 0)) (hsz : f.size ≤ 100000) :
    ∃ g cap' w', (Builtin.append_ #[31, 31] ty #[.slice (some ⟨c, 0, none⟩) f.size cap, .slice (some ⟨z, 0, none⟩) 1 1]).run Tryz.prog w = .ok (.slice (some ⟨g, 0, none⟩) (f.size + 1) cap') w' ∧
      (∀ j u, ((strZ f).map bv)[j]? = some u → w'.cell? ((⟨g, 0, none⟩ : Addr).add j) = some u) ∧ Fr (fun k => k = c) w w' := by
  obtain ⟨i0, hi, hz0, hz1, hz2⟩ := info_parts infoByte
  have hcell : ∀ j : Nat, w.cell? ⟨c, j, none⟩ = cur[j]? := fun j => by simp [World.cell?, hb]
  have hlen : (f.data.toList.map bv).length = f.size := by simp
  have hadd : ∀ (b j : Nat), ((⟨b, 0, none⟩ : Addr).add j) = ⟨b, j, none⟩ := fun b j => by unfold Addr.add; split <;> simp_all
  have hz' : ∀ (j : Nat) (u : Value), [Value.int .u8 0][j]? = some u → w.cell? ((⟨z, 0, none⟩ : Addr).add j) = some u := fun j u hj => by
    match j, hj with
    | 0, hj => simp at hj; subst hj; rw [hadd]; exact hz
  by_cases hr : f.size + 1 ≤ cap
  · have hrun := run_append_room_cells (P := Tryz.prog) w 31 ty 5 i0 Tryz.underlying31 hi c 0 f.size cap ⟨z, 0, none⟩ 1 1 [.int .u8 0] (by rw [hz1]; rfl) hz' (byte1 0) hr (fun j hj => by
        have : j = 0 := by simpa using hj
        subst this
        rw [hcell, hz1, Array.getElem?_eq_getElem (by omega)]
        rfl) (fun j hj => by
        have : j = 0 := by simpa using hj
        subst this
        rw [hz1]
        simp [World.frozen?, hb]
        omega)
    refine ⟨c, cap, _, hrun, ?_, ?_⟩
    · intro j u hj
      rw [hadd, hz1]
      simp only [Nat.zero_add, Nat.mul_one, World.setCells]
      by_cases e : j = f.size
      · subst e
        have hu : u = .int .u8 0 := by
          have : ((strZ f).map bv)[f.size]? = some (bv 0) := by simp [strZ]
          rw [this] at hj
          exact (Option.some.inj hj).symm
        subst hu
        exact World.cell?_setCell_same w ⟨c, f.size, none⟩ _ ((hcell _).trans (Array.getElem?_eq_getElem (by omega)))
      · rw [World.cell?_setCell_other _ _ _ _ (by first | (simp; omega) | (intro h; injection h; omega)), hcell]
        refine hpre j u ?_
        have hjl : j < f.size := by
          have := (List.getElem?_eq_some_iff.1 hj).1
          simp [strZ] at this
          omega
        rw [← hj]
        simp only [strZ, List.map_append]
        rw [List.getElem?_append_left (by rw [hlen]; exact hjl)]
    · have := (Fr.refl (fun k => k = c) w).set ⟨c, 0 + f.size * i0.size, none⟩ (fun _ => rfl) (Value.int .u8 0)
      exact this
  · obtain ⟨v', w', hrun, h1, h2⟩ := run_append_arg_grows (P := Tryz.prog) w 31 ty 5 i0 (.int .u8 0) 1 1 Tryz.underlying31 hi hz0 hz1 hz2 rfl (by decide) ⟨c, 0, none⟩ f.size cap (f.data.toList.map bv) (by simp) (fun j u hj => by rw [hadd, hcell]; exact hpre j u hj)
      ⟨z, 0, none⟩ 1 1 [.int .u8 0] rfl hz' (by omega) (by unfold maxLen; omega) (by omega)
    have h1' : OwnV w' w.heap.size v' (strZ f) := ownsRow_len h1 (by simp [strZ]) (by simp [strZ])
    obtain ⟨g, cap', hv, hg⟩ := ownsRow_slice h1' (by simp [strZ])
    rw [strZ_length] at hv
    subst hv
    exact ⟨g, cap', w', hrun, h1'.cells rfl, Fr.of_grown h2 (fun _ h => by cases h)⟩
theorem step_strz (w : World) {ops : Array Oper} {o : Oper} {a : Act} {K : Act → World → Prop} {Q : Exit → Act → World → Prop} {E : Prop} (hgd : o.guard = none) (s x : Operand)
    (ho : o.op = .call { callee := .builtin .append, args := #[s, x], argTypes := #[31, 31] })
    (c z : Nat) (f : ByteArray) (cap : Nat) (cur : Array Value) (hs : a.eval s = .slice (some ⟨c, 0, none⟩) f.size cap) (hx : a.eval x = .slice (some ⟨z, 0, none⟩) 1 1)
    (hb : w.heap[c]? = some (.cells cur 5 (cur.size, cur.size + 1))) (hc : cur.size = cap)
    (hpre : ∀ (j : Nat) (u : Value), (f.data.toList.map bv)[j]? = some u → cur[j]? = some u) (hz : w.cell? ⟨z, 0, none⟩ = some (.int .u8 0)) (hsz : f.size ≤ 100000)
    (h : ∀ g cap' w', (∀ j u, ((strZ f).map bv)[j]? = some u → w'.cell? ((⟨g, 0, none⟩ : Addr).add j) = some u) → Fr (fun k => k = c) w w' → K (a.put o.dst (.slice (some ⟨g, 0, none⟩) (f.size + 1) cap')) w') :
    if Region.wanted o (yielded ops a.tmps) = true then Oper.wp Tryz.prog o a w K Q else E := by
  rw [if_pos (by simp [Region.wanted, hgd])]
  obtain ⟨g, cap', w', hr, h1, h2⟩ := run_strz c z f cap w cur o.type hb hc hpre hz hsz
  exact wp_append_run s x _ ho hs hx hr (h g cap' w' h1 h2)

/-! ### the two orders of a text's bytes and of the nought -/
theorem bytesCells_pre (w : World) (e : TypeId) (f : ByteArray) : ∀ (j : Nat) (u : Value), (f.data.toList.map bv)[j]? = some u → (Lib.bytesCells w e f)[j]? = some u := by
  intro j u hj
  have hjl := (List.getElem?_eq_some_iff.1 hj).1
  simp at hjl
  simp only [Lib.bytesCells]
  rw [Array.getElem?_append_left (by simpa using hjl)]
  simpa using hj
theorem bytesCells_size (w : World) (e : TypeId) (f : ByteArray) : (Lib.bytesCells w e f).size = grownCap w f.size 0 e := by
  have := grownCap_ge w f.size 0 e
  simp [Lib.bytesCells]
  omega
/-- first the text, then the nought -/
theorem order_tz (w : World) (f : ByteArray) (t : TypeId) :
    ((Lib.bytesWorld w 5 f).alloc (.cells #[.int .u8 0] t)).heap[w.heap.size]? = some (.cells (Lib.bytesCells w 5 f) 5 ((Lib.bytesCells w 5 f).size, (Lib.bytesCells w 5 f).size + 1)) ∧
    ((Lib.bytesWorld w 5 f).alloc (.cells #[.int .u8 0] t)).cell? ⟨w.heap.size + 1, 0, none⟩ = some (.int .u8 0) ∧ Below w.heap.size w ((Lib.bytesWorld w 5 f).alloc (.cells #[.int .u8 0] t)) := by
  refine ⟨?_, ?_, (below_bytes w _ f).alloc (by rw [Lib.bytesWorld_size]; omega) _⟩
  · rw [heap_alloc_old _ _ (by rw [Lib.bytesWorld_size]; omega)]
    exact Lib.bytesWorld_at_new w _ f
  · have := heap_alloc_new (Lib.bytesWorld w 5 f) (.cells #[.int .u8 0] t)
    rw [Lib.bytesWorld_size] at this
    exact cell_of_one this
/-- first the nought, then the text -/
theorem order_zt (w : World) (f : ByteArray) (t : TypeId) :
    (Lib.bytesWorld (w.alloc (.cells #[.int .u8 0] t)) 5 f).heap[w.heap.size + 1]? = some (.cells (Lib.bytesCells (w.alloc (.cells #[.int .u8 0] t)) 5 f) 5 ((Lib.bytesCells (w.alloc (.cells #[.int .u8 0] t)) 5 f).size, (Lib.bytesCells (w.alloc (.cells #[.int .u8 0] t)) 5 f).size + 1)) ∧
    (Lib.bytesWorld (w.alloc (.cells #[.int .u8 0] t)) 5 f).cell? ⟨w.heap.size, 0, none⟩ = some (.int .u8 0) ∧ Below w.heap.size w (Lib.bytesWorld (w.alloc (.cells #[.int .u8 0] t)) 5 f) := by
  have hs : (w.alloc (.cells #[.int .u8 0] t)).heap.size = w.heap.size + 1 := by simp
  refine ⟨?_, ?_, ((Below.refl _ _).alloc (Nat.le_refl _) _).trans ((below_bytes _ _ f).mono (by rw [hs]; omega))⟩
  · have := Lib.bytesWorld_at_new (w.alloc (.cells #[.int .u8 0] t)) 5 f
    rw [hs] at this
    exact this
  · rw [Lib.bytesWorld_old _ _ _ _ (by rw [hs]; simp)]
    exact cell_of_one (heap_alloc_new w _)

/-! ### what becomes of the slices of the call's own -/
abbrev Apart (nv v : Value) : Prop := nv.ownBlock = none ∨ nv.ownBlock ≠ v.ownBlock
theorem put_below {w3 w4 : World} {Bb : Nat} {v : Value} {ys : List UInt8} {wr : World} (hbe : Beh wr Bb (Bb + 1) v ys) (h3 : wr.heap.size ≤ w3.heap.size) (hfr4 : Fr (fun k => k = Bb ∨ some k = v.ownBlock) w3 w4) : Below Bb w3 w4 := by
  have hlt := (Array.getElem?_eq_some_iff.1 hbe.one).1
  refine hfr4.below (by omega) (fun k hk hs => ?_)
  rcases hs with h | h
  · omega
  · have := (hbe.own.lt k h.symm).1; omega
theorem own_after_put {w3 w4 wr : World} {Bb : Nat} {nv v : Value} {xs : List UInt8} (how : OwnV wr (Bb + 1) nv xs) (hdis : Apart nv v) (hpre : Below wr.heap.size wr w3) (hfr4 : Fr (fun k => k = Bb ∨ some k = v.ownBlock) w3 w4) : OwnV w4 (Bb + 1) nv xs := by
  refine hfr4.own (ownsRow_below how hpre) (fun k hk hs => ?_)
  rcases hs with h | h
  · have := (how.lt k hk).1; omega
  · rcases hdis with h' | h'
    · rw [hk] at h'; cases h'
    · exact h' (hk.trans h)
theorem apart_put {w3 wr : World} {Bb : Nat} {nv v v4 : Value} {xs : List UInt8} (how : OwnV wr (Bb + 1) nv xs) (hdis : Apart nv v) (h3 : wr.heap.size ≤ w3.heap.size) (hloc4 : v4.ownBlock = v.ownBlock ∨ v4.ownBlock = some w3.heap.size) : Apart nv v4 := by
  rcases hdis with h | h
  · exact .inl h
  · rcases hloc4 with e | e
    · exact .inr (by rw [e]; exact h)
    · cases hn : nv.ownBlock with
      | none => exact .inl hn
      | some k => exact .inr (by rw [hn, e]; intro h'; injection h' with h'; have := (how.lt k hn).2; omega)
theorem beh_after_app {w5 w6 : World} {Bb : Nat} {nv v4 : Value} {xs zs : List UInt8} (hb : Beh w5 Bb (Bb + 1) v4 zs) (how : OwnV w5 (Bb + 1) nv xs) (hap : Apart nv v4) (hgrow : w5.grownBy w6 nv.ownBlock) : Beh w6 Bb (Bb + 1) v4 zs := by
  refine hb.keep (S := fun k => some k = nv.ownBlock) (Fr.of_grown hgrow (fun k h => h.symm)) (fun h => ?_) (fun k hk h => ?_)
  · have := (how.lt Bb h.symm).1; omega
  · rcases hap with h' | h'
    · rw [h'] at h; cases h
    · exact h' (h.symm.trans hk.symm)
theorem apart_app {w5 : World} {Bb : Nat} {nv v4 v6 : Value} {zs : List UInt8} (hb : OwnV w5 (Bb + 1) v4 zs) (hap : Apart nv v4) (hloc : v6.ownBlock = nv.ownBlock ∨ v6.ownBlock = some w5.heap.size) : Apart v6 v4 := by
  rcases hloc with e | e
  · rcases hap with h | h
    · exact .inl (e.trans h)
    · exact .inr (by rw [e]; exact h)
  · refine .inr (fun h => ?_)
    have := (hb.lt w5.heap.size (by rw [← h, e])).2
    omega
/-- an append to nv leaves another slice of the call's own as it was -/
theorem own_after_app {w5 w6 : World} {base : Nat} {nv v4 : Value} {zs : List UInt8} (hb : OwnV w5 base v4 zs) (hap : Apart nv v4) (hgrow : w5.grownBy w6 nv.ownBlock) : OwnV w6 base v4 zs := by
  refine Fr.own (S := fun k => some k = nv.ownBlock) (Fr.of_grown hgrow (fun k h => h.symm)) hb (fun k hk h => ?_)
  rcases hap with h' | h'
  · rw [h'] at h; cases h
  · exact h' (h.symm.trans hk.symm)
theorem Apart.symm {a b : Value} (h : Apart a b) : Apart b a := by
  cases hb : b.ownBlock with
  | none => exact .inl hb
  | some k =>
    refine .inr (fun e => ?_)
    rw [hb] at e
    rcases h with h | h
    · rw [h] at e; cases e
    · exact h (e.symm.trans hb.symm)
/-- the three slices of the call's own: the table, the records, what stands behind -/
structure Own3 (w : World) (Bb : Nat) (ov rv v : Value) (os rs zs : List UInt8) : Prop where
  o : OwnV w (Bb + 1) ov os
  r : OwnV w (Bb + 1) rv rs
  b : Beh w Bb (Bb + 1) v zs
  ovA : Apart ov v
  rvA : Apart rv v
  orA : Apart ov rv
theorem Own3.keep {w w' : World} {Bb : Nat} {ov rv v : Value} {os rs zs : List UInt8} (h : Own3 w Bb ov rv v os rs zs) (hb : Below w.heap.size w w') : Own3 w' Bb ov rv v os rs zs :=
  ⟨ownsRow_below h.o hb, ownsRow_below h.r hb, h.b.keep (Fr.of_below (S := fun _ => False) hb) (fun h => h) (fun _ _ h => h), h.ovA, h.rvA, h.orA⟩
theorem Own3.lt {w : World} {Bb : Nat} {ov rv v : Value} {os rs zs : List UInt8} (h : Own3 w Bb ov rv v os rs zs) : Bb + 1 ≤ w.heap.size := (Array.getElem?_eq_some_iff.1 h.b.one).1
theorem Own3.appO {w w' : World} {Bb : Nat} {ov rv v ov' : Value} {os rs zs os' : List UInt8} (h : Own3 w Bb ov rv v os rs zs) (hown : OwnV w' (Bb + 1) ov' os') (hgrow : w.grownBy w' ov.ownBlock) (hloc : ov'.ownBlock = ov.ownBlock ∨ ov'.ownBlock = some w.heap.size) : Own3 w' Bb ov' rv v os' rs zs :=
  ⟨hown, own_after_app h.r h.orA hgrow, beh_after_app h.b h.o h.ovA hgrow, apart_app h.b.own h.ovA hloc, h.rvA, apart_app h.r h.orA hloc⟩
theorem Own3.appR {w w' : World} {Bb : Nat} {ov rv v rv' : Value} {os rs zs rs' : List UInt8} (h : Own3 w Bb ov rv v os rs zs) (hown : OwnV w' (Bb + 1) rv' rs') (hgrow : w.grownBy w' rv.ownBlock) (hloc : rv'.ownBlock = rv.ownBlock ∨ rv'.ownBlock = some w.heap.size) : Own3 w' Bb ov rv' v os rs' zs :=
  ⟨own_after_app h.o h.orA.symm hgrow, hown, beh_after_app h.b h.r h.rvA hgrow, h.ovA, apart_app h.b.own h.rvA hloc, (apart_app h.o h.orA.symm hloc).symm⟩
theorem Own3.put {w w' : World} {Bb : Nat} {ov rv v v' : Value} {os rs zs zs' : List UInt8} (h : Own3 w Bb ov rv v os rs zs) (hb : Beh w' Bb (Bb + 1) v' zs') (hloc : v'.ownBlock = v.ownBlock ∨ v'.ownBlock = some w.heap.size) (hfr : Fr (fun k => k = Bb ∨ some k = v.ownBlock) w w') : Own3 w' Bb ov rv v' os rs zs' :=
  ⟨own_after_put h.o h.ovA (Below.refl _ _) hfr, own_after_put h.r h.rvA (Below.refl _ _) hfr, hb, apart_put h.o h.ovA (Nat.le_refl _) hloc, apart_put h.r h.rvA (Nat.le_refl _) hloc, h.orA⟩
theorem Own3.put_below {w w' : World} {Bb : Nat} {ov rv v : Value} {os rs zs : List UInt8} (h : Own3 w Bb ov rv v os rs zs) (hfr : Fr (fun k => k = Bb ∨ some k = v.ownBlock) w w') : Below Bb w w' := Go.Proofs.YtoedlabfiialfaaGreat.put_below h.b (Nat.le_refl _) hfr

/-! ### a region that reads a box of the call's own -/
theorem box_ne {w : World} {X : Nat} {cs : Array Value} {t : TypeId} (h : w.heap[X]? = some (.cells cs t (0, 0))) (ht : t ≠ 5) {base : Nat} {v : Value} {xs : List UInt8} (ho : OwnV w base v xs) : v.ownBlock ≠ some X := by
  intro e
  rcases ho.2 with ⟨hv, _⟩ | ⟨g, c, cur, hv, hg, hh, r⟩
  · rw [hv] at e; cases e
  · rw [hv] at e
    obtain rfl : g = X := by injection e
    rw [hh] at h
    injection h with h
    injection h with _ h
    exact ht h.symm
theorem box_app {w w' : World} {X : Nat} {cs : Array Value} {t : TypeId} (h : w.heap[X]? = some (.cells cs t (0, 0))) (ht : t ≠ 5) {base : Nat} {v : Value} {xs : List UInt8} (ho : OwnV w base v xs) (hf : Fr (fun k => some k = v.ownBlock) w w') : w'.heap[X]? = some (.cells cs t (0, 0)) :=
  (hf.block X (Array.getElem?_eq_some_iff.1 h).1 (fun e => box_ne h ht ho e.symm)).trans h
theorem box_new {w w' : World} {X : Nat} {o : Obj} (h : w.heap[X]? = some o) (hb : Below w.heap.size w w') : w'.heap[X]? = some o := (hb.block X (Array.getElem?_eq_some_iff.1 h).1).trans h
theorem box_put {w w' : World} {X Bb : Nat} {cs : Array Value} {t : TypeId} (h : w.heap[X]? = some (.cells cs t (0, 0))) (ht : t ≠ 5) (hX : X ≠ Bb) {base : Nat} {v : Value} {xs : List UInt8} (ho : OwnV w base v xs) (hf : Fr (fun k => k = Bb ∨ some k = v.ownBlock) w w') : w'.heap[X]? = some (.cells cs t (0, 0)) :=
  (hf.block X (Array.getElem?_eq_some_iff.1 h).1 (fun e => by rcases e with e | e; exact hX e; exact box_ne h ht ho e.symm)).trans h
/-- the box of a function -/
abbrev S26 (Bb fb : Nat) (w8 w' : World) : Prop := (∀ o, w'.cell? ⟨fb, o, none⟩ = w8.cell? ⟨fb, o, none⟩) ∧ Below Bb w8 w'
theorem s26_mk {Bb fb : Nat} {w8 w' : World} {o : Obj} (h8 : w8.heap[fb]? = some o) (h : w'.heap[fb]? = some o) (hb : Below Bb w8 w') : (∀ o, w'.cell? ⟨fb, o, none⟩ = w8.cell? ⟨fb, o, none⟩) ∧ Below Bb w8 w' :=
  ⟨fun o => World.cell?_of_block (a := ⟨fb, o, none⟩) (by rw [h, h8]), hb⟩
theorem nums_cell {w : World} {X : Nat} {nums : List Nat} {t : TypeId} (h : w.heap[X]? = some (.cells (nums.map (fun n : Nat => Value.int .u32 (n : Int))).toArray t (0, 0))) (j : Nat) (hj : j < nums.length) : w.cell? ⟨X, j, none⟩ = some (.int .u32 (nums[j] : Int)) := by
  rw [cell_of_row w X j _ t (0, 0) h]
  simp [hj]
end Go.Proofs.YtoedlabfiialfaaGreat
