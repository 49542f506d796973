/-
  The walk through the thin package's Funcs.
-/
import Derived.Test.YtoedlabfiialfaaGreatTab
import Derived.Deep.RegionHeld3
import Derived.Test.YtoedlabfiialfaaGreatReg
namespace Go.Proofs.YtoedlabfiialfaaGreat
open Go.RowKit

/-- function j as it is told -/
def fC (p : Pg) (j : Nat) : List Value := [.string (p.funcs.getD j default).name, .int .u64 (bndN p j), .int .u64 (bndN p (j + 1)), .int .i64 (p.funcs.getD j default).frame]
def fL (p : Pg) : Nat → List Value
  | 0 => []
  | k + 1 => fL p k ++ fC p k
theorem fL_length (p : Pg) (k : Nat) : (fL p k).length = k * 4 := by
  induction k with
  | zero => rfl
  | succ k ih => simp [fL, fC, ih]; omega
theorem fL_one (p : Pg) (k : Nat) : ∀ u ∈ fC p k, u.oneCell' = true := by
  intro u hu
  simp only [fC, List.mem_cons, List.not_mem_nil, or_false] at hu
  rcases hu with rfl | rfl | rfl | rfl <;> rfl
theorem infoF : (Tryz.prog.info? 46).map (fun i => (i.zero, i.size, i.bytes)) = some (some (.agg #[.string ⟨#[]⟩, .int .u64 0, .int .u64 0, .int .i64 0]), 4, 40) := by kernel_rfl
/-- a row of functions of the call's own -/
abbrev OwnF (w : World) (base : Nat) (v : Value) (n : Nat) (xs : List Value) : Prop := w.ownsRow base 46 4 v n xs
theorem OwnF.mono {w : World} {base base' : Nat} {v : Value} {n : Nat} {xs : List Value} (h : OwnF w base v n xs) (hb : base' ≤ base) : OwnF w base' v n xs := by
  refine ⟨h.1, ?_⟩
  rcases h.2 with h2 | ⟨g, c, cur, hv, hg, hh, r⟩
  · exact .inl h2
  · exact .inr ⟨g, c, cur, hv, by omega, hh, r⟩
theorem app_func (w : World) {ops : Array Oper} {rest : List Oper} {o : Oper} {a : Act} {Q : Exit → Act → World → Prop} (hgd : o.guard = none) (s x : Operand)
    (ho : o.op = .call { callee := .builtin .append, args := #[s, x], argTypes := #[41, 41] })
    (base n : Nat) (v : Value) (xs : List Value) (hs : a.eval s = v) (hown : OwnF w base v n xs) (ad : Addr) (c : Nat) (l : List Value) (hx : a.eval x = .slice (some ad) 1 c) (hl : l.length = 4)
    (hcells : ∀ j u, l[j]? = some u → w.cell? (ad.add j) = some u) (hone : ∀ u ∈ l, u.oneCell' = true) (hsz : n ≤ 1000) (hbase : base ≤ w.heap.size)
    (h : ∀ v' w', OwnF w' base v' (n + 1) (xs ++ l) → w.grownBy w' v.ownBlock → Below base w w' → (v'.ownBlock = v.ownBlock ∨ v'.ownBlock = some w.heap.size) → wpList Tryz.prog ops Q rest (a.put o.dst v') w') : wpList Tryz.prog ops Q (o :: rest) a w := by
  have hinf := infoF
  cases hi : Tryz.prog.info? 46 with
  | none => rw [hi] at hinf; cases hinf
  | some i0 =>
    rw [hi] at hinf
    simp only [Option.map_some, Option.some.injEq, Prod.mk.injEq] at hinf
    obtain ⟨hz0, hz1, hz2⟩ := hinf
    refine wpList_append_own_at w hgd s x 41 ho base 46 i0 _ 4 40 Tryz.underlying41 hi hz0 hz1 hz2 rfl (by decide) v n xs hs hown ad 1 c l hx (by simp [hl]) hcells hone (by unfold maxLen; omega) (by omega) hbase ?_
    intro v' w' h1 h2 _ h4
    exact h v' w' h1 h2 ((Below.refl _ _).grown h2 hbase (fun k hk => (hown.lt k hk).1)) h4

theorem step_func (w : World) {ops : Array Oper} {o : Oper} {a : Act} {K : Act → World → Prop} {Q : Exit → Act → World → Prop} {E : Prop} (hgd : o.guard = none) (s x : Operand)
    (ho : o.op = .call { callee := .builtin .append, args := #[s, x], argTypes := #[41, 41] })
    (base n : Nat) (v : Value) (xs : List Value) (hs : a.eval s = v) (hown : OwnF w base v n xs) (ad : Addr) (c : Nat) (l : List Value) (hx : a.eval x = .slice (some ad) 1 c) (hl : l.length = 4)
    (hcells : ∀ j u, l[j]? = some u → w.cell? (ad.add j) = some u) (hone : ∀ u ∈ l, u.oneCell' = true) (hsz : n ≤ 1000) (hbase : base ≤ w.heap.size)
    (h : ∀ v' w', OwnF w' base v' (n + 1) (xs ++ l) → w.grownBy w' v.ownBlock → Below base w w' → K (a.put o.dst v') w') :
    if Region.wanted o (yielded ops a.tmps) = true then Oper.wp Tryz.prog o a w K Q else E := by
  rw [if_pos (by simp [Region.wanted, hgd])]
  have hinf := infoF
  cases hi : Tryz.prog.info? 46 with
  | none => rw [hi] at hinf; cases hinf
  | some i0 =>
    rw [hi] at hinf
    simp only [Option.map_some, Option.some.injEq, Prod.mk.injEq] at hinf
    obtain ⟨hz0, hz1, hz2⟩ := hinf
    obtain ⟨v', w', hr, h1, h2, _, h4⟩ := run_append_own_at (P := Tryz.prog) w base 41 o.type 46 i0 _ 4 40 Tryz.underlying41 hi hz0 hz1 hz2 rfl (by decide) v n xs hown ad 1 c l (by simp [hl]) hcells hone (by unfold maxLen; omega) (by omega) hbase
    exact wp_append_run s x _ ho hs hx hr (h v' w' h1 h2 ((Below.refl _ _).grown h2 hbase (fun k hk => (hown.lt k hk).1)))
theorem FnRows.keep {w w' : World} {fb sb : Nat} {p : Pg} (h : FnRows w fb sb p) (B : Nat) (hb : Below B w w') (h1 : fb < B) (h2 : sb < B) : FnRows w' fb sb p :=
  ⟨Nat.lt_of_lt_of_le h.lf hb.size, Nat.lt_of_lt_of_le h.ls hb.size, fun j hj => (hb.cell (p := ⟨fb, j * 8, none⟩) h1).trans (h.e j hj), fun j hj => (hb.cell (p := ⟨fb, j * 8 + 1, none⟩) h1).trans (h.s j hj),
    fun j hj => (hb.cell (p := ⟨fb, j * 8 + 2, none⟩) h1).trans (h.z j hj), fun j hj => (hb.cell (p := ⟨fb, j * 8 + 5, none⟩) h1).trans (h.fz j hj), fun j hj => (hb.cell (p := ⟨sb, j * 6 + 2, none⟩) h2).trans (h.n j hj)⟩
theorem TbOk.all8 {w : World} {base tb lt db c b1 b2 b3 bf fb sb : Nat} {p : Pg} (h : TbOk w base tb lt db c b1 b2 b3 bf fb sb p) (j i : Nat) (hj : j < p.funcs.length) (hi : i < 8) : ∃ v, w.cell? ⟨fb, j * 8 + i, none⟩ = some v ∧ v.oneCell' = true := by
  obtain ⟨fr, sr, h1, h2, ⟨hz, ho⟩, h3⟩ := h.fs
  refine ⟨fr[j * 8 + i]'(by omega), ?_, ho _ _⟩
  rw [cell_of_row w fb _ _ _ _ h1]
  exact Array.getElem?_eq_getElem _

set_option maxRecDepth 100000 in
set_option maxHeartbeats 2000000 in
theorem implFuncs_any (g n cap : Nat) (p : Pg) (w : World) (HW : WellP p) (hm : Mem w g 0 (bytesB p)) (hn : n = (bytesB p).length) (hc : n ≤ cap) :
    Calls Tryz.prog 14 #[.slice (some ⟨g, 0, none⟩) n cap] w fun e w' => ∃ v, e = .returned (.tuple #[v, .bool true]) ∧ OwnF w' w.heap.size v p.funcs.length (fL p p.funcs.length) ∧ Below w.heap.size w w' := by
  have HC := Lib.hid (table_any g n cap p w HW hm hn hc)
  have hfl := HW.head.fl
  clear hm hn hc HW
  go_enter Tryz.func14, Tryz.ntmps14
  go_wp2_with fail
  refine Calls.mono HC.out ?_
  rintro e w1 ⟨tb, rfl, hT, hb1⟩
  obtain ⟨base, lt, db, c, b1, b2, b3, bf, fb, sb, hT, hlt0, hb10, hb20, hbase⟩ := hT
  have HB1 := Lib.hid hb1
  have HR := Lib.hid hT.rows
  have t1 := hT.cells.c1
  have tl := hT.cells.l
  have HNB : Hid (w.heap.size ≤ fb ∧ w.heap.size ≤ sb) := Lib.hid (by have := hT.ge; omega)
  have H8 := Lib.hid (fun j i hj hi => hT.all8 j i hj hi)
  clear hT hb1 HC
  go_wp2_with fail
  go_loopw [6, 21] (fun v i wr => ∃ k : Nat, k ≤ p.funcs.length ∧ i = .int .i64 k ∧ OwnF wr w1.heap.size v k (fL p k) ∧ Below w1.heap.size w1 wr) (fun _ i _ => p.funcs.length - (intOf i).toNat)
  case atStart => exact ⟨0, Nat.zero_le _, rfl, World.ownsRow_nil _ _ _ _, Below.refl _ _⟩
  case round =>
    obtain ⟨k, hk, rfl, hown, hb⟩ := hrel
    have HO := Lib.hid hown
    have HB := Lib.hid hb
    have hzr := hb.size
    by_cases hlt : k < p.funcs.length
    · have hlf := HR.out.lf
      have hls := HR.out.ls
      have HRr := Lib.hid (HR.out.keep _ hb hlf hls)
      have k0 := HRr.out.e k hlt
      have k1 := HRr.out.s k hlt
      have k2 := HRr.out.z k hlt
      have k5 := HRr.out.fz k hlt
      have kn := HRr.out.n k hlt
      obtain ⟨y3, k3, o3⟩ := H8.out k 3 hlt (by omega)
      obtain ⟨y4, k4, o4⟩ := H8.out k 4 hlt (by omega)
      obtain ⟨y6, k6, o6⟩ := H8.out k 6 hlt (by omega)
      obtain ⟨y7, k7, o7⟩ := H8.out k 7 hlt (by omega)
      replace k3 := (hb.cell (p := ⟨fb, k * 8 + 3, none⟩) hlf).trans k3
      replace k4 := (hb.cell (p := ⟨fb, k * 8 + 4, none⟩) hlf).trans k4
      replace k6 := (hb.cell (p := ⟨fb, k * 8 + 6, none⟩) hlf).trans k6
      replace k7 := (hb.cell (p := ⟨fb, k * 8 + 7, none⟩) hlf).trans k7
      have hlfr : fb < wr.heap.size := Nat.lt_of_lt_of_le hlf hzr
      have hlsr : sb < wr.heap.size := Nat.lt_of_lt_of_le hls hzr
      have HFC : Hid (fL p (k + 1) = fL p k ++ [.string (p.funcs.getD k default).name, .int .u64 (bndN p k), .int .u64 (bndN p (k + 1)), .int .i64 (p.funcs.getD k default).frame]) := Lib.hid rfl
      have st3 : ∀ (a : Addr) (W : World), (store a y3).run Tryz.prog W = stored Tryz.prog W a y3 .plain := fun a W => run_store _ W a _ _ o3
      have st4 : ∀ (a : Addr) (W : World), (store a y4).run Tryz.prog W = stored Tryz.prog W a y4 .plain := fun a W => run_store _ W a _ _ o4
      have st6 : ∀ (a : Addr) (W : World), (store a y6).run Tryz.prog W = stored Tryz.prog W a y6 .plain := fun a W => run_store _ W a _ _ o6
      have st7 : ∀ (a : Addr) (W : World), (store a y7).run Tryz.prog W = stored Tryz.prog W a y7 .plain := fun a W => run_store _ W a _ _ o7
      clear hb hown o3 o4 o6 o7
      generalize (p.funcs.getD k default) = fn at *
      go_wp2_with fail
      generalize hX : wr.alloc _ = X
      have hXb : Below wr.heap.size wr X := by rw [← hX]; exact (Below.refl _ _).alloc (Nat.le_refl _) _
      have x0 : X.cell? ⟨wr.heap.size, 0, none⟩ = some (.int .u64 (bndN p k)) := by rw [← hX]; simp
      have x1 : X.cell? ⟨wr.heap.size, 1, none⟩ = some (.pointer (some ⟨sb, k * 6, none⟩)) := by rw [← hX]; simp
      have x2 : X.cell? ⟨wr.heap.size, 2, none⟩ = some (.int .u64 (bndN p (k + 1))) := by rw [← hX]; simp
      have x5 : X.cell? ⟨wr.heap.size, 5, none⟩ = some (.int .i64 fn.frame) := by rw [← hX]; simp
      have xn := (hXb.cell (p := ⟨sb, k * 6 + 2, none⟩) hlsr).trans kn
      have hxl : wr.heap.size < X.heap.size := by rw [← hX]; simp
      have hxs : sb < X.heap.size := Nat.lt_trans hlsr hxl
      have HNE : Hid (some wr.heap.size ≠ u6.ownBlock) := Lib.hid (fun e => by have := (HO.out.lt _ e.symm).2; omega)
      have HXB := Lib.hid (HB.out.trans (hXb.mono hzr))
      have HOX : Hid (OwnF X w1.heap.size _ k (fL p k)) := Lib.hid (ownsRow_below HO.out hXb)
      clear hX hXb k0 k1 k2 k3 k4 k5 k6 k7 kn st3 st4 st6 st7
      generalize wr.heap.size = bx at *
      have hlF : ([.string fn.name, .int .u64 (bndN p k), .int .u64 (bndN p (k + 1)), .int .i64 fn.frame] : List Value).length = 4 := rfl
      have hYb : Below X.heap.size X (X.alloc (.cells #[.string fn.name, .int .u64 (bndN p k), .int .u64 (bndN p (k + 1)), .int .i64 fn.frame] 46)).drew := ((Below.refl _ _).alloc (Nat.le_refl _) _).drew
      have HYB := Lib.hid hYb
      have HOY := Lib.hid (ownsRow_below HOX.out hYb)
      have HYC := Lib.hid (block_cells X [.string fn.name, .int .u64 (bndN p k), .int .u64 (bndN p (k + 1)), .int .i64 fn.frame] 46)
      have hy0 := (hYb.cell (p := ⟨bx, 0, none⟩) hxl).trans x0
      have hy1 := (hYb.cell (p := ⟨bx, 1, none⟩) hxl).trans x1
      have hy2 := (hYb.cell (p := ⟨bx, 2, none⟩) hxl).trans x2
      have hy5 := (hYb.cell (p := ⟨bx, 5, none⟩) hxl).trans x5
      have hyn := (hYb.cell (p := ⟨sb, k * 6 + 2, none⟩) hxs).trans xn
      have hone : ∀ u ∈ ([.string fn.name, .int .u64 (bndN p k), .int .u64 (bndN p (k + 1)), .int .i64 fn.frame] : List Value), u.oneCell' = true := by
        intro u hu
        simp only [List.mem_cons, List.not_mem_nil, or_false] at hu
        rcases hu with rfl | rfl | rfl | rfl <;> rfl
      have HONE := Lib.hid hone
      have hYs : w1.heap.size ≤ (X.alloc (.cells #[.string fn.name, .int .u64 (bndN p k), .int .u64 (bndN p (k + 1)), .int .i64 fn.frame] 46)).drew.heap.size := Nat.le_trans HXB.out.size hYb.size
      clear hYb hone
      go_region_held3 (fun w' => w'.cell? ⟨bx, 0, none⟩ = some (.int .u64 (bndN p k)) ∧ w'.cell? ⟨bx, 1, none⟩ = some (.pointer (some ⟨sb, k * 6, none⟩)) ∧ w'.cell? ⟨bx, 2, none⟩ = some (.int .u64 (bndN p (k + 1))) ∧ w'.cell? ⟨bx, 5, none⟩ = some (.int .i64 fn.frame) ∧ w'.cell? ⟨sb, k * 6 + 2, none⟩ = some (.string fn.name))
        (first | go_keep)
        (first | (refine step_func _ (by rfl) (.tmp 25) (.tmp 38) (by rfl) w1.heap.size k u6 (fL p k) (by rfl) HOY.out ⟨X.heap.size, 0, none⟩ 1 _ (by rfl) hlF HYC.out HONE.out (by omega) hYs ?_; intro v9 w9 hown9 hg9 hb9; have z0 := hg9.cell hy0 HNE.out; have z1 := hg9.cell hy1 HNE.out; have z2 := hg9.cell hy2 HNE.out; have z5 := hg9.cell hy5 HNE.out; have zn := (hb9.cell (p := ⟨sb, k * 6 + 2, none⟩) hls).trans hyn))
      rw [← HFC.out] at hown9
      have HB9 : Hid (Below w1.heap.size w1 w9) := Lib.hid ((HXB.out.trans (HYB.out.mono HXB.out.size)).trans hb9)
      have HO9 := Lib.hid hown9
      clear hown9 hg9 hb9 z0 z1 z2 z5 zn hy0 hy1 hy2 hy5 hyn x0 x1 x2 x5 xn
      go_wp2_with fail
      exact ⟨⟨k + 1, hlt, by go_num, HO9.out, HB9.out⟩, by simp [intOf]; omega⟩
    · obtain rfl : k = p.funcs.length := by omega
      go_wp2_with fail
      go_ret2
      exact ⟨_, rfl, OwnF.mono HO.out HB1.out.size, HB1.out.trans (HB.out.mono HB1.out.size)⟩
end Go.Proofs.YtoedlabfiialfaaGreat
