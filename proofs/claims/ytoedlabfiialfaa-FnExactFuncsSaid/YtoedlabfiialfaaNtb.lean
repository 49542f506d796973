/-
  The walk through NewTable: no symbols of the old kind; the functions and the files of the line table.
-/
import Derived.Test.YtoedlabfiialfaaGfu
import Derived.Outline
namespace Go.Proofs.Ytoedlabfiialfaa
open Go.RowKit Go.ChangeMaps

set_option maxRecDepth 100000 in
set_option maxHeartbeats 1000000 in
theorem walksymtab_nil (f : Value) (w : World) : Calls Try.prog 51 #[.slice none 0 0, f] w fun e w' => e = .returned .nilIface ∧ w' = w := by
  go_enter Try.func51, Try.ntmps51
  go_wp2_with fail
  go_ret
  exact ⟨rfl, rfl⟩

/-- a block of one cell -/
abbrev Bx (w : World) (x : Nat) (v : Value) (t : TypeId) : Prop := w.heap[x]? = some (.cells #[v] t (0, 0))
/-- in the middle of NewTable -/
structure NT (w0 w : World) (lt db c b1 b2 : Nat) (m3 : Value) (p : Pg) (x3 x6 tb : Nat) (row : Array Value) : Prop where
  t : LtM w lt db c b1 b2 0 m3 p
  c3 : Bx w x3 (.pointer (some ⟨lt, 0, none⟩)) 60
  c6 : Bx w x6 (.int .i64 0) 3
  tbl : w.heap[tb]? = some (.cells row 83 (0, 0))
  frm : Fr (fun j => j = lt ∨ j = b1 ∨ j = b2) w0 w
  ge : w0.heap.size ≤ x3 ∧ w0.heap.size ≤ x6 ∧ w0.heap.size ≤ tb ∧ x3 ≠ x6 ∧ x3 ≠ tb ∧ x6 ≠ tb
  lo : lt < w0.heap.size ∧ db < w0.heap.size ∧ b1 < w0.heap.size ∧ b2 < w0.heap.size
section
variable {w0 w w' : World} {lt db c b1 b2 : Nat} {m3 : Value} {p : Pg} {x3 x6 tb : Nat} {row : Array Value}
theorem NT.keep (h : NT w0 w lt db c b1 b2 m3 p x3 x6 tb row) (hb : Below w.heap.size w w') : NT w0 w' lt db c b1 b2 m3 p x3 x6 tb row :=
  ⟨h.t.keep hb, (hb.block _ (Array.getElem?_eq_some_iff.1 h.c3).1).trans h.c3, (hb.block _ (Array.getElem?_eq_some_iff.1 h.c6).1).trans h.c6, (hb.block _ (Array.getElem?_eq_some_iff.1 h.tbl).1).trans h.tbl, h.frm.trans (Fr.of_below hb), h.ge, h.lo⟩
theorem NT.alloc (h : NT w0 w lt db c b1 b2 m3 p x3 x6 tb row) (o : Obj) : NT w0 (w.alloc o) lt db c b1 b2 m3 p x3 x6 tb row := h.keep ((Below.refl _ _).alloc (Nat.le_refl _) o)
theorem NT.set (h : NT w0 w lt db c b1 b2 m3 p x3 x6 tb row) (i : Nat) (v : Value) : NT w0 (w.setCell ⟨tb, i, none⟩ v) lt db c b1 b2 m3 p x3 x6 tb (row.setIfInBounds i v) := by
  have hg := h.ge
  have hl := h.lo
  have f : Fr (fun j => j = tb) w (w.setCell ⟨tb, i, none⟩ v) := (Fr.refl (fun j => j = tb) w).set ⟨tb, i, none⟩ (fun _ => rfl) v
  exact ⟨h.t.fr f (by omega) (by omega) (by omega) (by omega), (f.block _ (Array.getElem?_eq_some_iff.1 h.c3).1 (by omega)).trans h.c3, (f.block _ (Array.getElem?_eq_some_iff.1 h.c6).1 (by omega)).trans h.c6, heap_setCell_same w tb i _ _ v h.tbl,
    h.frm.new f hg.2.2.1, h.ge, h.lo⟩
theorem NT.cell (h : NT w0 w lt db c b1 b2 m3 p x3 x6 tb row) (i : Nat) : w.cell? ⟨tb, i, none⟩ = row[i]? := cell_of_row w tb i _ _ _ h.tbl
theorem NT.free (h : NT w0 w lt db c b1 b2 m3 p x3 x6 tb row) (i : Nat) : w.frozen? ⟨tb, i, none⟩ = false := by simp [World.frozen?, h.tbl]
theorem NT.ltt (h : NT w0 w lt db c b1 b2 m3 p x3 x6 tb row) : tb < w.heap.size := (Array.getElem?_eq_some_iff.1 h.tbl).1
end
theorem Bx.keep {w w' : World} {x : Nat} {v : Value} {t : TypeId} (h : Bx w x v t) (hb : Below w.heap.size w w') : Bx w' x v t := (hb.block x (Array.getElem?_eq_some_iff.1 h).1).trans h
theorem Bx.cell {w : World} {x : Nat} {v : Value} {t : TypeId} (h : Bx w x v t) : w.cell? ⟨x, 0, none⟩ = some v := cell_of_one h
theorem Bx.lt {w : World} {x : Nat} {v : Value} {t : TypeId} (h : Bx w x v t) : x < w.heap.size := (Array.getElem?_eq_some_iff.1 h).1

theorem NT.fr2 {w0 w w' : World} {lt db c b1 b2 bf : Nat} {m3 m3' : Value} {p : Pg} {x3 x6 tb : Nat} {row : Array Value} (h : NT w0 w lt db c b1 b2 m3 p x3 x6 tb row) (ht : LtM w' lt db c b1 b2 0 m3' p) (f : Fr (fun j => j = lt ∨ j = b2 ∨ j = bf) w w')
    (hbf : w0.heap.size ≤ bf ∧ bf ≠ x3 ∧ bf ≠ x6 ∧ bf ≠ tb) : NT w0 w' lt db c b1 b2 m3' p x3 x6 tb row := by
  have hg := h.ge
  have hl := h.lo
  refine ⟨ht, (f.block _ (Array.getElem?_eq_some_iff.1 h.c3).1 (by omega)).trans h.c3, (f.block _ (Array.getElem?_eq_some_iff.1 h.c6).1 (by omega)).trans h.c6, (f.block _ (Array.getElem?_eq_some_iff.1 h.tbl).1 (by omega)).trans h.tbl, ?_, h.ge, h.lo⟩
  refine ⟨f.os.trans h.frm.os, f.tape.trans h.frm.tape, f.output.trans h.frm.output, Nat.le_trans h.frm.size f.size, fun i hi hs => (f.block i (Nat.lt_of_lt_of_le hi h.frm.size) (fun e => ?_)).trans (h.frm.block i hi hs)⟩
  rcases e with e | e | e
  · exact hs (.inl e)
  · exact hs (.inr (.inr e))
  · omega
theorem NT.fr1 {w0 w w' : World} {lt db c b1 b2 : Nat} {m3 : Value} {p : Pg} {x3 x6 tb : Nat} {row : Array Value} (h : NT w0 w lt db c b1 b2 m3 p x3 x6 tb row) (ht : LtM w' lt db c b1 b2 0 m3 p) (f : Fr (fun j => j = b1) w w') : NT w0 w' lt db c b1 b2 m3 p x3 x6 tb row := by
  have hg := h.ge
  have hl := h.lo
  exact ⟨ht, (f.block _ (Array.getElem?_eq_some_iff.1 h.c3).1 (by omega)).trans h.c3, (f.block _ (Array.getElem?_eq_some_iff.1 h.c6).1 (by omega)).trans h.c6, (f.block _ (Array.getElem?_eq_some_iff.1 h.tbl).1 (by omega)).trans h.tbl, h.frm.trans (f.weak (fun j _ e => .inr (.inl e))), h.ge, h.lo⟩
theorem infoObj : (Try.prog.info? 129).map (fun i => (i.zero, i.size, i.bytes)) = some (some (.agg #[.slice none 0 0, .slice none 0 0]), 2, 48) := by kernel_rfl

/-- a table once it is made: its functions in fb and sb, its files in bf, its line table at lt; all of its own but the line table is at blocks from base on -/
structure TbOk (w : World) (base tb lt db c b1 b2 b3 bf fb sb : Nat) (p : Pg) : Prop where
  t : LtM w lt db c b1 b2 0 (.map (some b3)) p
  m3 : MapL kS w b3 (fileL p.files 1)
  mf : ∃ lm ov, MapL kS w bf lm ∧ FilesOk p ov lm
  row : ∃ s0 s3, w.heap[tb]? = some (.cells #[s0, .slice (some ⟨fb, 0, none⟩) p.funcs.length p.funcs.length, .map (some bf), s3, .pointer (some ⟨lt, 0, none⟩)] 83 (0, 0))
  fs : ∃ fr sr, w.heap[fb]? = some (.cells fr 77 (0, 0)) ∧ w.heap[sb]? = some (.cells sr 86 (0, 0)) ∧ (fr.size = p.funcs.length * 8 ∧ AllOne fr) ∧ ∀ j, j < p.funcs.length → FRow fr sr sb p j
  lo : lt < base ∧ db < base ∧ b1 < base ∧ b2 < base
  ge : base ≤ tb ∧ base ≤ b3 ∧ base ≤ bf ∧ base ≤ fb ∧ base ≤ sb
/-- what may turn and leaves the table a table -/
theorem TbOk.fr {w w' : World} {base tb lt db c b1 b2 b3 bf fb sb : Nat} {p : Pg} (h : TbOk w base tb lt db c b1 b2 b3 bf fb sb p) (ht : LtM w' lt db c b1 b2 0 (.map (some b3)) p) {S : Nat → Prop} (f : Fr S w w') (hS : ∀ j, S j → j < base) : TbOk w' base tb lt db c b1 b2 b3 bf fb sb p := by
  obtain ⟨g1, g2, g3, g4, g5⟩ := h.ge
  obtain ⟨lm, ov, hm, hf⟩ := h.mf
  obtain ⟨s0, s3, hr⟩ := h.row
  obtain ⟨fr, sr, h1, h2, hz, h3⟩ := h.fs
  have hn : ∀ i, base ≤ i → ¬ S i := fun i hi hs => by have := hS i hs; omega
  exact ⟨ht, h.m3.fr f (hn _ g2), ⟨lm, ov, hm.fr f (hn _ g3), hf⟩, ⟨s0, s3, (f.block _ (Array.getElem?_eq_some_iff.1 hr).1 (hn _ g1)).trans hr⟩,
    ⟨fr, sr, (f.block _ (Array.getElem?_eq_some_iff.1 h1).1 (hn _ g4)).trans h1, (f.block _ (Array.getElem?_eq_some_iff.1 h2).1 (hn _ g5)).trans h2, hz, h3⟩, h.lo, h.ge⟩
theorem TbOk.keep {w w' : World} {base tb lt db c b1 b2 b3 bf fb sb : Nat} {p : Pg} (h : TbOk w base tb lt db c b1 b2 b3 bf fb sb p) (hb : Below w.heap.size w w') : TbOk w' base tb lt db c b1 b2 b3 bf fb sb p :=
  h.fr (h.t.keep hb) (Fr.of_below (S := fun _ => False) hb) (fun _ e => e.elim)

set_option maxRecDepth 100000 in
set_option maxHeartbeats 4000000 in
theorem newTable_any (lt db c b1 b2 : Nat) (p : Pg) (w : World) (HW : WellP p) (hr : w.heap[lt]? = some (.cells (row0 (bytesV db c p) (.map (some b1)) (.map (some b2))) 104 (0, 0))) (hm : Mem w db 0 (bytesB p))
    (hc : (bytesB p).length ≤ c) (cm : c ≤ maxLen) (hm1 : MapL k32 w b1 []) (hm2 : MapL k32 w b2 []) (hne : lt ≠ db ∧ lt ≠ b1 ∧ lt ≠ b2 ∧ db ≠ b1 ∧ db ≠ b2 ∧ b1 ≠ b2) :
    Calls Try.prog 42 #[.slice none 0 0, .pointer (some ⟨lt, 0, none⟩)] w fun e w' => ∃ tb b3 bf fb sb, e = .returned (.tuple #[.pointer (some ⟨tb, 0, none⟩), .nilIface]) ∧ TbOk w' w.heap.size tb lt db c b1 b2 b3 bf fb sb p ∧ Fr (fun j => j = lt ∨ j = b1 ∨ j = b2) w w' := by
  have hmf : ∀ (fn : Go.Fn) (first cap : Array Value) (w : World), (Instr.makeFunc fn first cap).run Try.prog w = .ok (.func fn first cap) w := fun _ _ _ _ => rfl
  have hmm1 : ∀ (w : World), (Instr.makeMap 122 none).run Try.prog w = .ok (.map (some w.heap.size)) (w.alloc (.map #[] 0)) := fun _ => rfl
  have hmm2 : ∀ (w : World), (Instr.makeMap 80 none).run Try.prog w = .ok (.map (some w.heap.size)) (w.alloc (.map #[] 0)) := fun _ => rfl
  have hll := HW.len_le
  have hlt : lt < w.heap.size := (Array.getElem?_eq_some_iff.1 hr).1
  have hdb : db < w.heap.size := World.block_lt_of_cell? w _ (hm 0 (by omega))
  have HX := Lib.hid (And.intro HW (And.intro hr (And.intro hm (And.intro hc (And.intro cm (And.intro hm1 (And.intro hm2 hne)))))))
  have HLO : Hid (lt < w.heap.size ∧ db < w.heap.size ∧ b1 < w.heap.size ∧ b2 < w.heap.size) := Lib.hid ⟨hlt, hdb, hm1.lt, hm2.lt⟩
  clear HW hr hm hc cm hm1 hm2 hne
  go_enter Try.func42, Try.ntmps42
  go_wp2_with fail
  refine Calls.mono (walksymtab_nil _ _) ?_
  rintro e w1 ⟨rfl, hw1⟩
  have hw1' := hw1.symm
  subst hw1'
  go_wp2_with fail
  generalize hW2 : ((w.alloc (.cells #[.pointer (some ⟨lt, 0, none⟩)] 60)).alloc (.cells #[.int .i64 0] 3)).alloc (.cells #[.slice none 0 0, .slice none 0 0, .map none, .slice none 0 0, .pointer none] 83) = W2
  have hb2 : Below w.heap.size w W2 := by rw [← hW2]; exact (((Below.refl _ _).alloc (Nat.le_refl _) _).alloc (by simp) _).alloc (by simp; omega) _
  obtain ⟨q3, q6, qt, _⟩ := three_at w (.cells #[.pointer (some ⟨lt, 0, none⟩)] 60) (.cells #[.int .i64 0] 3) (.cells #[.slice none 0 0, .slice none 0 0, .map none, .slice none 0 0, .pointer none] 83)
  rw [hW2] at q3 q6 qt
  have HC := Lib.hid (isGo12_any lt db c (.map (some b1)) (.map (some b2)) p W2 HX.out.1 ((hb2.block lt hlt).trans HX.out.2.1) (HX.out.2.2.1.keep hdb hb2) (fun e => HX.out.2.2.2.2.2.2.2.1 e.symm) HX.out.2.2.2.1 HX.out.2.2.2.2.1)
  have HB2 := Lib.hid hb2
  have HQ := Lib.hid (And.intro q3 (And.intro q6 qt))
  have hlt2 : lt < W2.heap.size := Nat.lt_of_lt_of_le hlt hb2.size
  clear hW2 hb2 q3 q6 qt
  refine Calls.mono HC.out ?_
  rintro e x1 ⟨rfl, hfr, hr1⟩
  have HT1 : Hid (NT w x1 lt db c b1 b2 (.map none) p w.heap.size (w.heap.size + 1) (w.heap.size + 1 + 1) #[.slice none 0 0, .slice none 0 0, .map none, .slice none 0 0, .pointer none]) := Lib.hid (by
    obtain ⟨g1, g2, g3, g4, g5, g6, g7, g8⟩ := HX.out
    have hL := HLO.out
    have k3 := (Array.getElem?_eq_some_iff.1 HQ.out.1).1
    have k6 := (Array.getElem?_eq_some_iff.1 HQ.out.2.1).1
    have kt := (Array.getElem?_eq_some_iff.1 HQ.out.2.2).1
    have hs := HB2.out.size
    refine ⟨⟨g1, hr1, (g3.keep hdb HB2.out).fr hfr (fun e => g8.1 e.symm), g4, g5, ⟨[], (g6.keep HB2.out).fr hfr (fun e => g8.2.1 e.symm), fun x hx => by cases hx⟩, ⟨[], (g7.keep HB2.out).fr hfr (fun e => g8.2.2.1 e.symm), fun x hx => by cases hx⟩, g8⟩,
      (hfr.block _ k3 (by omega)).trans HQ.out.1, (hfr.block _ k6 (by omega)).trans HQ.out.2.1, (hfr.block _ kt (by omega)).trans HQ.out.2.2,
      (Fr.of_below HB2.out).trans (hfr.weak (fun j _ e => .inl e)), by omega, HLO.out⟩)
  clear hfr hr1 HC HQ HB2 hlt2
  generalize w.heap.size + 1 + 1 = tb at *
  generalize w.heap.size + 1 = x6 at *
  have e0 : ∃ x3, w.heap.size = x3 := ⟨_, rfl⟩
  have c3 := HT1.out.c3.cell
  have c3l := HT1.out.c3.lt
  have t4 : x1.cell? ⟨tb, 4, none⟩ = some (.pointer none) := HT1.out.cell 4
  have f4 := HT1.out.free 4
  go_upto_region 8 with fail
  have HT2 := Lib.hid (HT1.out.set 4 (.pointer (some ⟨lt, 0, none⟩)))
  simp only [List.setIfInBounds_toArray, List.set_cons_succ, List.set_cons_zero] at HT2
  generalize x1.setCell { block := tb, off := 4, spot := none } _ = y1 at *
  clear c3 c3l t4 f4 HT1 e0
  go_upto_region 9 with fail
  have HT3 := Lib.hid ((HT2.out.alloc (.map #[] 0)).alloc (.cells #[.map (some y1.heap.size)] 122))
  generalize (y1.alloc (.map #[] 0)).alloc (.cells #[.map (some y1.heap.size)] 122) = y2 at *
  clear HT2
  obtain ⟨y3, cu3, hmk3, _, _, hb3, _, _⟩ := make_row y2 78 86 6 56 0 _ Try.underlying78 infoSym (by omega) (by omega) (by omega)
  have hmk3' : (Instr.makeSlice 78 (.int .i64 0) (.int .i64 0)).run Try.prog y2 = .ok (.slice (some ⟨y2.heap.size, 0, none⟩) 0 0) y3 := hmk3
  have HT4 := Lib.hid (HT3.out.keep hb3)
  have c6 := HT3.out.c6.cell
  have c6l := HT3.out.c6.lt
  have t0 : y3.cell? ⟨tb, 0, none⟩ = some (.slice none 0 0) := HT4.out.cell 0
  have f0 := HT4.out.free 0
  have HS3 : Hid (y2.heap.size = y2.heap.size) := Lib.hid rfl
  clear hmk3 hb3 HT3
  go_upto_region 10 with fail
  have HT5 := Lib.hid (HT4.out.set 0 (.slice (some ⟨y2.heap.size, 0, none⟩) 0 0))
  simp only [List.setIfInBounds_toArray, List.set_cons_zero] at HT5
  generalize y3.setCell { block := tb, off := 0, spot := none } _ = y4 at *
  generalize y2.heap.size = xs at *
  clear c6 c6l t0 f0 HT4 hmk3' HS3
  go_wp2_with fail
  refine Calls.mono (walksymtab_nil _ _) ?_
  rintro e w5 ⟨rfl, hw5⟩
  have hw5' := hw5.symm
  subst hw5'
  have HT6 := Lib.hid (((HT5.out.alloc (.cells #[.int .i64 0] 3)).alloc (.cells #[.int .i64 0] 3)).alloc (.cells #[.int .u8 0] 5))
  obtain ⟨q10, _, _, _⟩ := three_at y4 (.cells #[.int .i64 0] 3) (.cells #[.int .i64 0] 3) (.cells #[.int .u8 0] 5)
  generalize ((y4.alloc (.cells #[.int .i64 0] 3)).alloc (.cells #[.int .i64 0] 3)).alloc (.cells #[.int .u8 0] 5) = y5 at *
  have HQ10 := Lib.hid q10
  have HG10 : Hid (w.heap.size ≤ y4.heap.size ∧ y4.heap.size ≠ tb) := Lib.hid ⟨HT5.out.frm.size, fun e => by have := HT5.out.ltt; omega⟩
  generalize y4.heap.size = x10 at *
  clear q10 HT5
  obtain ⟨y6, cu6, hmk6, _, _, hb6, _, _⟩ := make_row y5 79 77 8 96 0 _ Try.underlying79 infoFunc (by omega) (by omega) (by omega)
  have hmk6' : (Instr.makeSlice 79 (.int .i64 0) (.int .i64 0)).run Try.prog y5 = .ok (.slice (some ⟨y5.heap.size, 0, none⟩) 0 0) y6 := hmk6
  have HT7 := Lib.hid (HT6.out.keep hb6)
  have HQ6 := Lib.hid (Bx.keep HQ10.out hb6)
  have c10 := Bx.cell HQ10.out
  have c10l := Bx.lt HQ10.out
  have t1 : y6.cell? ⟨tb, 1, none⟩ = some (.slice none 0 0) := HT7.out.cell 1
  have f1 := HT7.out.free 1
  clear hmk6 hb6 HT6 HQ10
  go_upto_region 17 with fail
  have HT8 := Lib.hid (HT7.out.set 1 (.slice (some ⟨y5.heap.size, 0, none⟩) 0 0))
  simp only [List.setIfInBounds_toArray, List.set_cons_succ, List.set_cons_zero] at HT8
  have HQ7 : Hid (Bx (y6.setCell ⟨tb, 1, none⟩ (.slice (some ⟨y5.heap.size, 0, none⟩) 0 0)) x10 (.int .i64 0) 3) := Lib.hid ((set_other (a := ⟨tb, 1, none⟩) HG10.out.2).trans HQ6.out)
  generalize y6.setCell { block := tb, off := 1, spot := none } _ = y7 at *
  generalize y5.heap.size = xf at *
  clear c10 c10l t1 f1 HT7 hmk6' HQ6
  have HT9 := Lib.hid (HT8.out.alloc (.map #[] 0))
  have HQ9 := Lib.hid (Bx.keep HQ7.out ((Below.refl y7.heap.size y7).alloc (Nat.le_refl _) (.map #[] 0)))
  have hmf0 : MapL kS (y7.alloc (.map #[] 0)) y7.heap.size [] := heap_alloc_new _ _
  have HMF := Lib.hid hmf0
  have hg9 : Hid (w.heap.size ≤ y7.heap.size ∧ y7.heap.size ≠ tb ∧ lt < y7.heap.size ∧ db < y7.heap.size ∧ b1 < y7.heap.size ∧ b2 < y7.heap.size ∧ x10 ≠ y7.heap.size ∧ w.heap.size ≠ y7.heap.size ∧ x6 ≠ y7.heap.size) := Lib.hid (by
    have h1 := HT8.out.frm.size
    have h2 := HT8.out.ltt
    have h3 := HT8.out.lo
    have h4 := Bx.lt HQ7.out
    have h5 := HT8.out.c3.lt
    have h6 := HT8.out.c6.lt
    omega)
  have t2 : (y7.alloc (.map #[] 0)).cell? ⟨tb, 2, none⟩ = some (.map none) := HT9.out.cell 2
  have f2 := HT9.out.free 2
  clear hmf0 HT8 HQ7
  go_upto_region 18 with fail
  have HT10 := Lib.hid (HT9.out.set 2 (.map (some y7.heap.size)))
  simp only [List.setIfInBounds_toArray, List.set_cons_succ, List.set_cons_zero] at HT10
  have HQ11 : Hid (Bx ((y7.alloc (.map #[] 0)).setCell ⟨tb, 2, none⟩ (.map (some y7.heap.size))) x10 (.int .i64 0) 3) := Lib.hid ((set_other (a := ⟨tb, 2, none⟩) HG10.out.2).trans HQ9.out)
  have HM10 : Hid (MapL kS ((y7.alloc (.map #[] 0)).setCell ⟨tb, 2, none⟩ (.map (some y7.heap.size))) y7.heap.size []) := Lib.hid ((set_other (a := ⟨tb, 2, none⟩) hg9.out.2.1).trans HMF.out)
  generalize (y7.alloc (.map #[] 0)).setCell { block := tb, off := 2, spot := none } (.map (some y7.heap.size)) = y8 at *
  generalize y7.heap.size = bf at *
  clear t2 f2 HT9 HQ9 HMF
  obtain ⟨y9, cu9, hmk9, hob, hcu9, hb9, _, _⟩ := make_row y8 81 129 2 48 1 _ Try.underlying81 infoObj (by omega) (by omega) (by omega)
  have hmk9' : (Instr.makeSlice 81 (.int .i64 1) (.int .i64 1)).run Try.prog y8 = .ok (.slice (some ⟨y8.heap.size, 0, none⟩) 1 1) y9 := hmk9
  have HT11 := Lib.hid (HT10.out.keep hb9)
  have HQ12 := Lib.hid (Bx.keep HQ11.out hb9)
  have HM11 := Lib.hid (HM10.out.keep hb9)
  have hgo : Hid (w.heap.size ≤ y8.heap.size ∧ y8.heap.size ≠ tb ∧ bf ≠ y8.heap.size ∧ x10 ≠ y8.heap.size ∧ lt < y8.heap.size ∧ b1 < y8.heap.size ∧ b2 < y8.heap.size ∧ db < y8.heap.size) := Lib.hid (by
    have h1 := HT10.out.frm.size
    have h2 := HT10.out.ltt
    have h3 := HT10.out.lo
    have h4 := Bx.lt HQ11.out
    have h5 := HM10.out.lt
    omega)
  have HOB := Lib.hid hob
  have t4 : y8.cell? ⟨tb, 4, none⟩ = some (.pointer (some ⟨lt, 0, none⟩)) := HT10.out.cell 4
  have t3 : y9.cell? ⟨tb, 3, none⟩ = some (.slice none 0 0) := HT11.out.cell 3
  have f3 := HT11.out.free 3
  have ht8 := HT10.out.ltt
  clear hmk9 hb9 HT10 HQ11 HM10 hob
  go_upto_region 21 with fail
  have HT12 := Lib.hid (HT11.out.set 3 (.slice (some ⟨y8.heap.size, 0, none⟩) 1 1))
  simp only [List.setIfInBounds_toArray, List.set_cons_succ, List.set_cons_zero] at HT12
  have HQ13 : Hid (Bx (y9.setCell ⟨tb, 3, none⟩ (.slice (some ⟨y8.heap.size, 0, none⟩) 1 1)) x10 (.int .i64 0) 3) := Lib.hid ((set_other (a := ⟨tb, 3, none⟩) HG10.out.2).trans HQ12.out)
  have HM12 : Hid (MapL kS (y9.setCell ⟨tb, 3, none⟩ (.slice (some ⟨y8.heap.size, 0, none⟩) 1 1)) bf []) := Lib.hid ((set_other (a := ⟨tb, 3, none⟩) hg9.out.2.1).trans HM11.out)
  have HOB2 : Hid ((y9.setCell ⟨tb, 3, none⟩ (.slice (some ⟨y8.heap.size, 0, none⟩) 1 1)).heap[y8.heap.size]? = _) := Lib.hid ((set_other (a := ⟨tb, 3, none⟩) hgo.out.2.1).trans HOB.out)
  generalize y9.setCell { block := tb, off := 3, spot := none } _ = y10 at *
  generalize y8.heap.size = ob at *
  clear t4 t3 f3 ht8 HT11 HQ12 HM11 HOB hmk9'
  have t4 : y10.cell? ⟨tb, 4, none⟩ = some (.pointer (some ⟨lt, 0, none⟩)) := HT12.out.cell 4
  have t3 : y10.cell? ⟨tb, 3, none⟩ = some (.slice (some ⟨ob, 0, none⟩) 1 1) := HT12.out.cell 3
  have t2 : y10.cell? ⟨tb, 2, none⟩ = some (.map (some bf)) := HT12.out.cell 2
  have htl := HT12.out.ltt
  go_wp2_with fail
  refine Calls.mono (go12MapFiles_any lt db c b1 b2 bf ⟨ob, 0, none⟩ p y10 HT12.out.t HM12.out (by have := hg9.out; omega)) ?_
  rintro e y11 ⟨rfl, b3, lm, hb3, hL, hm3, hmfl, hfo, hfr⟩
  have hb3' : Hid (w.heap.size ≤ b3 ∧ tb < b3 ∧ bf < b3 ∧ ob < b3) := Lib.hid (by
    have h1 := HT12.out.frm.size
    have h2 := HT12.out.ltt
    have h3 := HM12.out.lt
    have h4 := (Array.getElem?_eq_some_iff.1 HOB2.out).1
    omega)
  have HT13 := Lib.hid (HT12.out.fr2 hL hfr (by have := hg9.out; omega))
  have HQ14 : Hid (Bx y11 x10 (.int .i64 0) 3) := Lib.hid ((hfr.block _ (Bx.lt HQ13.out) (by have := hg9.out; have := HG10.out; have := HLO.out; omega)).trans HQ13.out)
  have HOB3 := Lib.hid ((hfr.block _ (Array.getElem?_eq_some_iff.1 HOB2.out).1 (by have := hgo.out; omega)).trans HOB2.out)
  have HMM := Lib.hid (And.intro hm3 (And.intro hmfl hfo))
  clear t4 t3 t2 htl hb3 hL hm3 hmfl hfo hfr HT12 HQ13 HM12 HOB2
  go_wp2_with fail
  go_loop [13, 14, 15] (fun o l i => o = .pointer (some ⟨ob, 0, none⟩) ∧ l = .int .i64 0 ∧ i = .int .i64 0) (fun _ _ _ => 0)
  case atStart => exact ⟨rfl, rfl, rfl⟩
  case round =>
    obtain ⟨rfl, rfl, rfl⟩ := hrel
    have t0 : y11.cell? ⟨tb, 0, none⟩ = some (.slice (some ⟨xs, 0, none⟩) 0 0) := HT13.out.cell 0
    have t4 : y11.cell? ⟨tb, 4, none⟩ = some (.pointer (some ⟨lt, 0, none⟩)) := HT13.out.cell 4
    have htl := HT13.out.ltt
    have c10 := Bx.cell HQ14.out
    have c10l := Bx.lt HQ14.out
    go_wp2_with fail
    refine Calls.mono (go12Funcs_any lt db c b1 b2 (.map (some b3)) p y11 HT13.out.t) ?_
    rintro e y12 ⟨fb, sb, ftb, fr, sr, rfl, hF, hone, hrow⟩
    have HT14 := Lib.hid (HT13.out.fr1 hF.t hF.frm)
    have hlo := HLO.out
    have HOB4 := Lib.hid ((hF.frm.block _ (Array.getElem?_eq_some_iff.1 HOB3.out).1 (by have := hgo.out; omega)).trans HOB3.out)
    have HMM4 := Lib.hid (And.intro (HMM.out.1.fr hF.frm (by have := hb3'.out; omega)) (HMM.out.2.1.fr hF.frm (by have := hg9.out; omega)))
    have hfge : Hid (w.heap.size ≤ fb ∧ w.heap.size ≤ sb ∧ tb ≠ fb ∧ tb ≠ sb ∧ ob ≠ fb ∧ ob ≠ sb ∧ bf ≠ fb ∧ bf ≠ sb ∧ b3 ≠ fb ∧ b3 ≠ sb) := Lib.hid (by
      have h1 := HT13.out.frm.size
      have h2 := hF.ge
      have h3 := HT13.out.ltt
      have h4 := (Array.getElem?_eq_some_iff.1 HOB3.out).1
      have h5 := HMM.out.1.lt
      have h6 := HMM.out.2.1.lt
      omega)
    have HFF := Lib.hid (And.intro hF.f (And.intro hF.s hrow))
    have HFS := Lib.hid (And.intro hF.fs hone)
    clear t0 t4 htl c10 c10l hF hrow hone HT13 HOB3 HQ14
    have t1 : y12.cell? ⟨tb, 1, none⟩ = some (.slice (some ⟨xf, 0, none⟩) 0 0) := HT14.out.cell 1
    have f1 := HT14.out.free 1
    have htl := HT14.out.ltt
    go_upto_region 114 with fail
    have HT15 := Lib.hid (HT14.out.set 1 (.slice (some ⟨fb, 0, none⟩) p.funcs.length p.funcs.length))
    simp only [List.setIfInBounds_toArray, List.set_cons_succ, List.set_cons_zero] at HT15
    have hst := fun (j : Nat) (hj : j ≠ tb) => (set_other (w := y12) (a := ⟨tb, 1, none⟩) (v := .slice (some ⟨fb, 0, none⟩) p.funcs.length p.funcs.length) hj)
    have HOB5 := Lib.hid ((hst ob hgo.out.2.1).trans HOB4.out)
    have HM5 := Lib.hid (And.intro ((hst b3 (by have := hb3'.out; omega)).trans HMM4.out.1) ((hst bf hg9.out.2.1).trans HMM4.out.2))
    have HF5 := Lib.hid (And.intro ((hst fb (by have := hfge.out; omega)).trans HFF.out.1) ((hst sb (by have := hfge.out; omega)).trans HFF.out.2.1))
    generalize y12.setCell { block := tb, off := 1, spot := none } _ = y13 at *
    clear t1 f1 htl HT14 HOB4 HMM4 hst
    have t1 : y13.cell? ⟨tb, 1, none⟩ = some (.slice (some ⟨fb, 0, none⟩) p.funcs.length p.funcs.length) := HT15.out.cell 1
    have htl := HT15.out.ltt
    have o0 : y13.cell? ⟨ob, 0, none⟩ = some (cu9[0]'(by omega)) := by rw [cell_of_row y13 ob 0 _ _ _ HOB5.out]; exact Array.getElem?_eq_getElem _
    have fo0 : y13.frozen? ⟨ob, 0, none⟩ = false := by simp [World.frozen?, HOB5.out]
    have hfl := HX.out.1.head.fl
    have HZ := Lib.hid (fun v => (Fr.refl (fun j => j = ob) y13).set ⟨ob, 0, none⟩ (fun _ => rfl) v)
    go_wp2_with fail
    go_ret2
    have k1 := hgo.out
    have k2 := hb3'.out
    have k3 := hfge.out
    have k4 := hg9.out
    have k5 := HT15.out.ge
    have hm3 : MapL kS y13 b3 (fileL p.files 1) := HM5.out.1
    have hmf2 : MapL kS y13 bf lm := HM5.out.2
    refine ⟨tb, b3, bf, fb, sb, rfl, ⟨HT15.out.t.fr (HZ.out _) (by omega) (by omega) (by omega) (by omega), hm3.fr (HZ.out _) (by omega), ⟨lm, _, hmf2.fr (HZ.out _) (by omega), HMM.out.2.2⟩,
      ⟨_, _, ((HZ.out _).block _ (Array.getElem?_eq_some_iff.1 HT15.out.tbl).1 (by omega)).trans HT15.out.tbl⟩,
      ⟨fr, sr, ((HZ.out _).block _ (Array.getElem?_eq_some_iff.1 HF5.out.1).1 (by omega)).trans HF5.out.1, ((HZ.out _).block _ (Array.getElem?_eq_some_iff.1 HF5.out.2).1 (by omega)).trans HF5.out.2, HFS.out, HFF.out.2.2⟩, HLO.out, by omega⟩, HT15.out.frm.new (HZ.out _) k1.1⟩
end Go.Proofs.Ytoedlabfiialfaa
