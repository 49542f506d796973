/-
  The walk through go12Funcs: the functions of the table.
-/
import Derived.Test.YtoedlabfiialfaaGmf
namespace Go.Proofs.Ytoedlabfiialfaa
open Go.RowKit Go.ChangeMaps

theorem catchFuncs_idle (w : World) :
    CallsD Try.prog 80 #[] .returning w fun e u' w' => e = .returned (.tuple #[]) ∧ u' = .returning ∧ w' = w := by
  refine callsD_of_wpS Try.func80 rfl fun c₀ cs hu => ?_
  apply wpS_region
  cases c₀
  simp_all [wpOpsS, go_sem, recoverD, Try.ntmps80, bodyPostS, results, Try.results80]

/-- each value takes one cell -/
def AllOne (fr : Array Value) : Prop := ∀ i (h : i < fr.size), fr[i].oneCell' = true
theorem AllOne.set {fr : Array Value} (h : AllOne fr) (i : Nat) (v : Value) (hv : v.oneCell' = true) : AllOne (fr.setIfInBounds i v) := by
  intro j hj
  rw [Array.getElem_setIfInBounds]
  split
  · exact hv
  · exact h j (by simpa using hj)
theorem allOne_made (z : Array Value) (hz : AllOne z) (hp : 0 < z.size) (n : Nat) : AllOne (madeCells z n) := by
  intro j hj
  simp only [madeCells, Array.getElem_map, Array.getElem_range]
  have hlt : j % z.size < z.size := Nat.mod_lt _ hp
  rw [getElem!_pos z _ hlt]
  exact hz _ hlt
/-- a row that make has made -/
theorem make_row (w : World) (t e : TypeId) (size bytes n : Nat) (z : Value) (ht : Try.prog.underlying t = some (.slice e)) (hi : (Try.prog.info? e).map (fun i => (i.zero, i.size, i.bytes)) = some (some z, size, bytes)) (hn : n ≤ 1000) (hs : size ≤ 100) (hb : bytes ≤ 1000) :
    ∃ w' cur, (Instr.makeSlice t (.int .i64 n) (.int .i64 n)).run Try.prog w = .ok (.slice (some ⟨w.heap.size, 0, none⟩) n n) w' ∧ w'.heap[w.heap.size]? = some (.cells cur e (0, 0)) ∧ cur.size = n * size ∧ Below w.heap.size w w' ∧ w.heap.size < w'.heap.size ∧ cur = madeCells z.cells (n * size) := by
  cases hinf : Try.prog.info? e with
  | none => rw [hinf] at hi; cases hi
  | some i =>
    rw [hinf] at hi
    simp only [Option.map_some, Option.some.injEq, Prod.mk.injEq] at hi
    obtain ⟨hz, hsz, hby⟩ := hi
    have h1 : n * size ≤ 16777216 := Nat.le_trans (Nat.mul_le_mul hn hs) (by decide)
    have h2 : i.bytes * n ≤ 281474976710656 := by rw [hby]; exact Nat.le_trans (Nat.mul_le_mul hb hn) (by decide)
    obtain ⟨w', hr, hown, hg⟩ := run_makeSlice_full (P := Try.prog) w w.heap.size t e i z size ht hinf hz hsz .i64 .i64 n h1 h2 (by unfold maxLen; omega) (Nat.le_refl _)
    rcases hown.2 with ⟨hv, _⟩ | ⟨g, cap, cur, hv, _, hh, _, _, hcs, hxs⟩
    · cases hv
    · cases hv
      have hcm : cur = madeCells z.cells (n * size) := by
        have hl : cur.toList.length = n * size := by simp [hcs]
        rw [List.take_of_length_le (by omega)] at hxs
        cases cur
        rw [← Array.toList_inj]
        exact hxs
      exact ⟨w', cur, hr, hh, hcs, (Below.refl _ _).grown hg (Nat.le_refl _) (fun k hk => by cases hk), (Array.getElem?_eq_some_iff.1 hh).1, hcm⟩
theorem infoFunc : (Try.prog.info? 77).map (fun i => (i.zero, i.size, i.bytes)) = some (some (.agg #[.int .u64 0, .pointer none, .int .u64 0, .slice none 0 0, .slice none 0 0, .int .i64 0, .pointer none, .pointer none]), 8, 96) := by kernel_rfl
theorem infoSym : (Try.prog.info? 86).map (fun i => (i.zero, i.size, i.bytes)) = some (some (.agg #[.int .u64 0, .int .u8 0, .string ⟨#[]⟩, .int .u64 0, .pointer none, .int .i64 0]), 6, 56) := by kernel_rfl

/-- in the middle of go12Funcs: the rows of the functions and of the symbols -/
structure FW (w0 w : World) (lt db c b1 b2 : Nat) (m3 : Value) (p : Pg) (fb sb ftb : Nat) (fr sr : Array Value) : Prop where
  t : LtM w lt db c b1 b2 0 m3 p
  ft : w.heap[ftb]? = some (.cells #[.pointer (some ⟨lt, 0, none⟩), .int .i64 (wszN p)] 138 (0, 0))
  f : w.heap[fb]? = some (.cells fr 77 (0, 0))
  s : w.heap[sb]? = some (.cells sr 86 (0, 0))
  fs : fr.size = p.funcs.length * 8
  ss : sr.size = p.funcs.length * 6
  frm : Fr (fun j => j = b1) w0 w
  ge : w0.heap.size ≤ ftb ∧ w0.heap.size ≤ fb ∧ w0.heap.size ≤ sb ∧ fb ≠ sb ∧ ftb ≠ fb ∧ ftb ≠ sb
  lo : lt < w0.heap.size ∧ db < w0.heap.size ∧ b1 < w0.heap.size ∧ b2 < w0.heap.size
section
variable {w0 w w' : World} {lt db c b1 b2 : Nat} {m3 : Value} {p : Pg} {fb sb ftb : Nat} {fr sr : Array Value}
theorem FW.keep (h : FW w0 w lt db c b1 b2 m3 p fb sb ftb fr sr) (hb : Below w.heap.size w w') : FW w0 w' lt db c b1 b2 m3 p fb sb ftb fr sr :=
  ⟨h.t.keep hb, (hb.block _ (Array.getElem?_eq_some_iff.1 h.ft).1).trans h.ft, (hb.block _ (Array.getElem?_eq_some_iff.1 h.f).1).trans h.f, (hb.block _ (Array.getElem?_eq_some_iff.1 h.s).1).trans h.s, h.fs, h.ss, h.frm.trans (Fr.of_below hb), h.ge, h.lo⟩
theorem FW.fr1 (h : FW w0 w lt db c b1 b2 m3 p fb sb ftb fr sr) (ht : LtM w' lt db c b1 b2 0 m3 p) (hf : Fr (fun j => j = b1) w w') : FW w0 w' lt db c b1 b2 m3 p fb sb ftb fr sr := by
  have := h.ge
  have := h.lo
  exact ⟨ht, (hf.block _ (Array.getElem?_eq_some_iff.1 h.ft).1 (by omega)).trans h.ft, (hf.block _ (Array.getElem?_eq_some_iff.1 h.f).1 (by omega)).trans h.f, (hf.block _ (Array.getElem?_eq_some_iff.1 h.s).1 (by omega)).trans h.s, h.fs, h.ss, h.frm.trans hf, h.ge, h.lo⟩
theorem FW.setF (h : FW w0 w lt db c b1 b2 m3 p fb sb ftb fr sr) (i : Nat) (v : Value) : FW w0 (w.setCell ⟨fb, i, none⟩ v) lt db c b1 b2 m3 p fb sb ftb (fr.setIfInBounds i v) sr := by
  have hg := h.ge
  have hl := h.lo
  have f : Fr (fun j => j = fb) w (w.setCell ⟨fb, i, none⟩ v) := (Fr.refl (fun j => j = fb) w).set ⟨fb, i, none⟩ (fun _ => rfl) v
  exact ⟨h.t.fr f (by omega) (by omega) (by omega) (by omega), (f.block _ (Array.getElem?_eq_some_iff.1 h.ft).1 (by omega)).trans h.ft, heap_setCell_same w fb i _ _ v h.f, (f.block _ (Array.getElem?_eq_some_iff.1 h.s).1 (by omega)).trans h.s, by simpa using h.fs, h.ss,
    h.frm.new f hg.2.1, h.ge, h.lo⟩
theorem FW.setS (h : FW w0 w lt db c b1 b2 m3 p fb sb ftb fr sr) (i : Nat) (v : Value) : FW w0 (w.setCell ⟨sb, i, none⟩ v) lt db c b1 b2 m3 p fb sb ftb fr (sr.setIfInBounds i v) := by
  have hg := h.ge
  have hl := h.lo
  have f : Fr (fun j => j = sb) w (w.setCell ⟨sb, i, none⟩ v) := (Fr.refl (fun j => j = sb) w).set ⟨sb, i, none⟩ (fun _ => rfl) v
  exact ⟨h.t.fr f (by omega) (by omega) (by omega) (by omega), (f.block _ (Array.getElem?_eq_some_iff.1 h.ft).1 (by omega)).trans h.ft, (f.block _ (Array.getElem?_eq_some_iff.1 h.f).1 (by omega)).trans h.f, heap_setCell_same w sb i _ _ v h.s, h.fs, by simpa using h.ss,
    h.frm.new f hg.2.2.1, h.ge, h.lo⟩
theorem FW.cellF (h : FW w0 w lt db c b1 b2 m3 p fb sb ftb fr sr) (i : Nat) (hi : i < fr.size) : w.cell? ⟨fb, i, none⟩ = some fr[i] := by rw [cell_of_row w fb i _ _ _ h.f]; exact Array.getElem?_eq_getElem hi
theorem FW.cellS (h : FW w0 w lt db c b1 b2 m3 p fb sb ftb fr sr) (i : Nat) (hi : i < sr.size) : w.cell? ⟨sb, i, none⟩ = some sr[i] := by rw [cell_of_row w sb i _ _ _ h.s]; exact Array.getElem?_eq_getElem hi
theorem FW.freeF (h : FW w0 w lt db c b1 b2 m3 p fb sb ftb fr sr) (i : Nat) : w.frozen? ⟨fb, i, none⟩ = false := by simp [World.frozen?, h.f]
theorem FW.freeS (h : FW w0 w lt db c b1 b2 m3 p fb sb ftb fr sr) (i : Nat) : w.frozen? ⟨sb, i, none⟩ = false := by simp [World.frozen?, h.s]
end
theorem set_ne {a : Array Value} {v : Value} {i m : Nat} (h : i ≠ m) : (a.setIfInBounds i v)[m]? = a[m]? := by simp [h]
theorem set_eq {a : Array Value} {v : Value} {i m : Nat} (h : i = m) (hm : m < a.size) : (a.setIfInBounds i v)[m]? = some v := by subst h; simp [hm]
/-- function j lies in the rows -/
def FRow (fr sr : Array Value) (sb : Nat) (p : Pg) (j : Nat) : Prop :=
  fr[j * 8]? = some (.int .u64 (bndN p j)) ∧ fr[j * 8 + 1]? = some (.pointer (some ⟨sb, j * 6, none⟩)) ∧ fr[j * 8 + 2]? = some (.int .u64 (bndN p (j + 1))) ∧ fr[j * 8 + 5]? = some (.int .i64 (p.funcs.getD j default).frame) ∧ sr[j * 6 + 2]? = some (.string (p.funcs.getD j default).name)

set_option maxRecDepth 100000 in
set_option maxHeartbeats 2000000 in
theorem go12Funcs_any (lt db c b1 b2 : Nat) (m3 : Value) (p : Pg) (w : World) (h : LtM w lt db c b1 b2 0 m3 p) :
    Calls Try.prog 57 #[.pointer (some ⟨lt, 0, none⟩)] w fun e w' => ∃ fb sb ftb fr sr, e = .returned (.slice (some ⟨fb, 0, none⟩) p.funcs.length p.funcs.length) ∧
      FW w w' lt db c b1 b2 m3 p fb sb ftb fr sr ∧ AllOne fr ∧ ∀ j, j < p.funcs.length → FRow fr sr sb p j := by
  have hlt := h.ok.lt
  have hfl := h.well.head.fl
  have hpos := h.well.head.pos
  have HH := Lib.hid h
  have HLO : Hid (lt < w.heap.size ∧ db < w.heap.size ∧ b1 < w.heap.size ∧ b2 < w.heap.size) := Lib.hid ⟨hlt, h.ok.db, h.m1.lt, h.m2.lt⟩
  clear h
  go_enter_defers Try.func57, Try.ntmps57
  go_wp2_with fail
  refine Calls.mono (funcTab_any lt p _ HH.out.ok.c5 HH.out.ok.c8) ?_
  rintro e w1 ⟨rfl, hb1⟩
  have HB1 := Lib.hid hb1
  have hs1 := hb1.size
  clear hb1
  go_wp2_with fail
  generalize hW : w1.alloc _ = W
  have hWb : Below w.heap.size w W := by rw [← hW]; exact HB1.out.alloc HB1.out.size _
  have hft : W.heap[w1.heap.size]? = some (.cells #[.pointer (some ⟨lt, 0, none⟩), .int .i64 (wszN p)] 138 (0, 0)) := by rw [← hW]; exact heap_alloc_new _ _
  have hsW : w1.heap.size < W.heap.size := (Array.getElem?_eq_some_iff.1 hft).1
  clear hW
  refine Calls.mono (count_any lt db c p W (HH.out.keep hWb).ok) ?_
  rintro e w2 ⟨rfl, hb2⟩
  have hs2 := hb2.size
  obtain ⟨w3, cf, hmk1, hcf, hcs, hb3, hs3, hcm⟩ := make_row w2 79 77 8 96 p.funcs.length _ Try.underlying79 infoFunc (by omega) (by omega) (by omega)
  obtain ⟨w4, cs, hmk2, hcs4, hss, hb4, hs4, _⟩ := make_row w3 78 86 6 56 p.funcs.length _ Try.underlying78 infoSym (by omega) (by omega) (by omega)
  have HAO : Hid (AllOne cf) := Lib.hid (by rw [hcm]; exact allOne_made _ (by intro i hi; match i, hi with | 0, _ => rfl | 1, _ => rfl | 2, _ => rfl | 3, _ => rfl | 4, _ => rfl | 5, _ => rfl | 6, _ => rfl | 7, _ => rfl) (by decide) _)
  have h24 : Below w2.heap.size w2 w4 := hb3.trans (hb4.mono (Nat.le_of_lt hs3))
  have hWw4 : Below W.heap.size W w4 := hb2.trans (h24.mono hs2)
  have HF0 : Hid (FW w w4 lt db c b1 b2 m3 p w2.heap.size w3.heap.size w1.heap.size cf cs) := Lib.hid
    ⟨(HH.out.keep hWb).keep hWw4, (hWw4.block _ hsW).trans hft, (hb4.block _ hs3).trans hcf, hcs4, hcs, hss, Fr.of_below (hWb.trans (hWw4.mono hWb.size)), by omega, HLO.out⟩
  clear hWb hft hb2 hcf hb3 hb4 h24 hWw4 hcs4 hcs hss hcm
  go_wp2_with fail
  generalize w2.heap.size = fb at *
  generalize w3.heap.size = sb at *
  generalize w1.heap.size = ftb at *
  clear HB1 hs1 hsW hs2 hmk1 hmk2 hs3 hs4
  go_loopw [19] (fun i wr => ∃ (k : Nat) (fr sr : Array Value), k ≤ p.funcs.length ∧ i = .int .i64 k ∧ FW w wr lt db c b1 b2 m3 p fb sb ftb fr sr ∧ Hid (AllOne fr ∧ ∀ j, j < k → FRow fr sr sb p j)) (fun i _ => p.funcs.length - (intOf i).toNat)
  case atStart => exact ⟨0, cf, cs, Nat.zero_le _, rfl, HF0.out, Lib.hid ⟨HAO.out, fun j h => absurd h (Nat.not_lt_zero _)⟩⟩
  case round =>
    obtain ⟨k, fr, sr, hk, rfl, hF, HA⟩ := hrel
    have HF := Lib.hid hF
    have hge := hF.ge
    have hfs := hF.fs
    have hss := hF.ss
    clear hF
    by_cases hlt2 : k < p.funcs.length
    · have ft0 : wr.cell? ⟨ftb, 0, none⟩ = some (.pointer (some ⟨lt, 0, none⟩)) := cell_of_row _ _ 0 _ _ _ HF.out.ft
      have ft1 : wr.cell? ⟨ftb, 1, none⟩ = some (.int .i64 (wszN p)) := cell_of_row _ _ 1 _ _ _ HF.out.ft
      have ftl : ftb < wr.heap.size := (Array.getElem?_eq_some_iff.1 HF.out.ft).1
      go_wp2_with fail
      refine Calls.mono (pc_any lt db c k p wr HF.out.t.ok (Nat.le_of_lt hlt2)) ?_
      rintro e x1 ⟨rfl, hb1⟩
      have HX1 := Lib.hid (HF.out.keep hb1)
      clear hb1 ft0 ft1 ftl HF
      have c0 := HX1.out.cellF (k * 8) (by omega)
      have f0 := HX1.out.freeF (k * 8)
      go_upto_region 10 with fail
      have HY1 := Lib.hid (HX1.out.setF (k * 8) (.int .u64 (bndN p k)))
      generalize x1.setCell { block := fb, off := k * 8, spot := none } _ = y1 at *
      clear c0 f0 HX1
      have ft0 : y1.cell? ⟨ftb, 0, none⟩ = some (.pointer (some ⟨lt, 0, none⟩)) := cell_of_row _ _ 0 _ _ _ HY1.out.ft
      have ft1 : y1.cell? ⟨ftb, 1, none⟩ = some (.int .i64 (wszN p)) := cell_of_row _ _ 1 _ _ _ HY1.out.ft
      have ftl : ftb < y1.heap.size := (Array.getElem?_eq_some_iff.1 HY1.out.ft).1
      have HP : Hid (Calls Try.prog 66 #[ftv lt p, .int .i64 ((k : Int) + 1)] y1 fun e w' => e = .returned (.int .u64 (bndN p (k + 1))) ∧ Below y1.heap.size y1 w') := Lib.hid (pc_any lt db c (k + 1) p y1 HY1.out.t.ok hlt2)
      go_wp2_with fail
      refine Calls.mono HP.out ?_
      rintro e x2 ⟨rfl, hb2⟩
      have HX2 := Lib.hid (HY1.out.keep hb2)
      clear hb2 ft0 ft1 ftl HY1 HP
      have hs2 := HX2.out.fs
      have c0 := HX2.out.cellF (k * 8 + 2) (by omega)
      have f0 := HX2.out.freeF (k * 8 + 2)
      go_upto_region 11 with fail
      have HY2 := Lib.hid (HX2.out.setF (k * 8 + 2) (.int .u64 (bndN p (k + 1))))
      generalize x2.setCell { block := fb, off := k * 8 + 2, spot := none } _ = y2 at *
      clear c0 f0 HX2 hs2
      go_wp2_with fail
      refine Calls.mono (funcData_any lt db c k p y2 HY2.out.t.ok hlt2) ?_
      rintro e x3 ⟨rfl, hb3⟩
      have HX3 := Lib.hid (HY2.out.keep hb3)
      clear hb3 HY2
      go_upto_region 12 with fail
      generalize hy3 : x3.alloc _ = y3
      have hb3 : Below x3.heap.size x3 y3 := by rw [← hy3]; exact (Below.refl _ _).alloc (Nat.le_refl _) _
      have hbx : y3.heap[x3.heap.size]? = some (.cells #[.pointer (some ⟨lt, 0, none⟩), .slice (some ⟨db, headN p + k * recN p, none⟩) ((bytesB p).length - (headN p + k * recN p)) (c - (headN p + k * recN p))] 113 (0, 0)) := by rw [← hy3]; exact heap_alloc_new _ _
      have HY3 := Lib.hid (HX3.out.keep hb3)
      have hbxn : Hid (x3.heap.size ≠ fb ∧ x3.heap.size ≠ b1 ∧ w.heap.size ≤ x3.heap.size ∧ x3.heap.size ≠ sb) := Lib.hid (by
        have h1 := (Array.getElem?_eq_some_iff.1 HX3.out.f).1
        have h2 := HX3.out.lo
        have h3 := HX3.out.frm.size
        have h4 := (Array.getElem?_eq_some_iff.1 HX3.out.s).1
        omega)
      generalize x3.heap.size = bx at *
      clear hy3 hb3 HX3
      have hs3 := HY3.out.fs
      have c0 := HY3.out.cellF (k * 8 + 6) (by omega)
      have f0 := HY3.out.freeF (k * 8 + 6)
      go_upto_region 13 with fail
      have HY4 := Lib.hid (HY3.out.setF (k * 8 + 6) (.pointer (some ⟨lt, 0, none⟩)))
      have hbx4 : (y3.setCell ⟨fb, k * 8 + 6, none⟩ (.pointer (some ⟨lt, 0, none⟩))).heap[bx]? = _ := (set_other (a := ⟨fb, k * 8 + 6, none⟩) hbxn.out.1).trans hbx
      generalize y3.setCell { block := fb, off := k * 8 + 6, spot := none } _ = y4 at *
      clear c0 f0 HY3 hbx hs3
      have bx0 : y4.cell? ⟨bx, 0, none⟩ = some (.pointer (some ⟨lt, 0, none⟩)) := cell_of_row _ _ 0 _ _ _ hbx4
      have bx1 : y4.cell? ⟨bx, 1, none⟩ = some (.slice (some ⟨db, headN p + k * recN p, none⟩) ((bytesB p).length - (headN p + k * recN p)) (c - (headN p + k * recN p))) := cell_of_row _ _ 1 _ _ _ hbx4
      have bxl : bx < y4.heap.size := (Array.getElem?_eq_some_iff.1 hbx4).1
      have hfrm := HY4.out.t.well.funcs k hlt2
      have hfr0 := hfrm.fr0
      have hfr1 := hfrm.fr1
      have HDR := Lib.hid (deferreturn_any lt db c k p y4 HY4.out.t.ok hlt2)
      have HTX := Lib.hid hfrm.name
      have HNA := Lib.hid (bytes_name p k hlt2)
      have HFN : Hid (p.funcs.getD k default = p.funcs[k]) := Lib.hid (by rw [List.getD_eq_getElem?_getD, List.getElem?_eq_getElem hlt2]; rfl)
      clear hfrm
      generalize p.funcs[k] = fn at *
      obtain ⟨fz, hfz⟩ : ∃ fz : Nat, fn.frame = fz := ⟨fn.frame.toNat, by omega⟩
      have hfe : fn.frame.toNat = fz := by omega
      rw [hfe] at HDR
      have hfz1 : fz ≤ 65536 := by omega
      have HFZ := Lib.hid hfz
      clear hfe hfz hfr0 hfr1
      go_wp2_with fail
      refine Calls.mono HDR.out ?_
      rintro e x5 ⟨rfl, hb5⟩
      have HX5 := Lib.hid (HY4.out.keep hb5)
      have hbx5 := (hb5.block _ bxl).trans hbx4
      clear hb5 hbx4 bx0 bx1 bxl HDR HY4
      have hs5 := HX5.out.fs
      have c0 := HX5.out.cellF (k * 8 + 5) (by omega)
      have f0 := HX5.out.freeF (k * 8 + 5)
      go_upto_region 14 with fail
      have HY5 := Lib.hid (HX5.out.setF (k * 8 + 5) (.int .i64 fz))
      have hbx6 : (x5.setCell ⟨fb, k * 8 + 5, none⟩ (.int .i64 fz)).heap[bx]? = _ := (set_other (a := ⟨fb, k * 8 + 5, none⟩) hbxn.out.1).trans hbx5
      generalize x5.setCell { block := fb, off := k * 8 + 5, spot := none } _ = y5 at *
      clear c0 f0 HX5 hbx5 hs5
      have HOA := Lib.hid (HY5.out.t.well.off_le k hlt2)
      refine wp_region_dett (fun wi => FW w wi lt db c b1 b2 m3 p fb sb ftb _ sr ∧ wi.heap[bx]? = _) 17 _ (by kernel_rfl) (by kernel_rfl) (by kernel_rfl) rfl rfl ⟨HY5.out.keep (Below.refl _ _).drew, hbx6⟩ ?_
      have hfs6 := HY5.out.fs
      have hfs7 := hfs6
      simp only [Array.size_setIfInBounds] at hfs7
      have hg0 := Lib.hid (fun W' (h' : FW w W' lt db c b1 b2 m3 p fb sb ftb ((((fr.setIfInBounds (k * 8) (.int .u64 (bndN p k))).setIfInBounds (k * 8 + 2) (.int .u64 (bndN p (k + 1)))).setIfInBounds (k * 8 + 6) (.pointer (some ⟨lt, 0, none⟩))).setIfInBounds (k * 8 + 5) (.int .i64 fz)) sr) =>
        (show W'.cell? ⟨fb, k * 8, none⟩ = some (.int .u64 (bndN p k)) by
          rw [cell_of_row W' fb _ _ _ _ h'.f]
          simp [Array.getElem?_setIfInBounds]
          omega))
      iterate 17 (first
        | (refine wpDet_skip (by rfl) ?_; simp only [Act.put, List.setIfInBounds_toArray, List.set_cons_succ, List.set_cons_zero])
        | (apply wpDet_step
           · rfl
           · (intro wi hi K hK; have q0 := hg0.out wi hi.1; have q5 := hi.1.t.ok.c5; have ql := hi.1.t.ok.lt; have qb0 := cell_of_row _ _ 0 _ _ _ hi.2; have qb1 := cell_of_row _ _ 1 _ _ _ hi.2; simp only [List.getElem?_toArray, List.getElem?_cons_succ, List.getElem?_cons_zero] at qb0 qb1; have qbl := (Array.getElem?_eq_some_iff.1 hi.2).1; have HI := Lib.hid hi; clear hi; go_wp2_with fail
              all_goals first
              | exact hK _ HI.out
              | exact HI.out
              | (go_at_call 83; (with_reducible refine Calls.mono (nameOff_any lt db c k p _ HI.out.1.t.ok hlt2) ?_); rintro e w5 ⟨rfl, hb5⟩; go_wp2_with fail; all_goals first | exact hK _ ⟨HI.out.1.keep hb5, (hb5.block _ (Array.getElem?_eq_some_iff.1 HI.out.2).1).trans HI.out.2⟩ | exact ⟨HI.out.1.keep hb5, (hb5.block _ (Array.getElem?_eq_some_iff.1 HI.out.2).1).trans HI.out.2⟩)
              | (go_at_call 82; (with_reducible refine Calls.mono (funcName_any lt db c b1 b2 0 m3 p (offN p k) fn.name _ HI.out.1.t HNA.out HTX.out) ?_); rintro e w5 ⟨rfl, h5, f5⟩; go_wp2_with fail; all_goals first | exact hK _ ⟨HI.out.1.fr1 h5 f5, (f5.block _ (Array.getElem?_eq_some_iff.1 HI.out.2).1 hbxn.out.2.1).trans HI.out.2⟩ | exact ⟨HI.out.1.fr1 h5 f5, (f5.block _ (Array.getElem?_eq_some_iff.1 HI.out.2).1 hbxn.out.2.1).trans HI.out.2⟩))
           · kernel_rfl))
      refine wpDet_nil (fun wi hi => ?_)
      have HIF := Lib.hid hi.1
      clear hi hbx6 hg0
      have s0 := HIF.out.cellS (k * 6) (by omega)
      have s1 := HIF.out.cellS (k * 6 + 1) (by omega)
      have s2 := HIF.out.cellS (k * 6 + 2) (by omega)
      have s3 := HIF.out.cellS (k * 6 + 3) (by omega)
      have s4 := HIF.out.cellS (k * 6 + 4) (by omega)
      have s5 := HIF.out.cellS (k * 6 + 5) (by omega)
      have z0 := HIF.out.freeS (k * 6)
      have z1 := HIF.out.freeS (k * 6 + 1)
      have z2 := HIF.out.freeS (k * 6 + 2)
      have z3 := HIF.out.freeS (k * 6 + 3)
      have z4 := HIF.out.freeS (k * 6 + 4)
      have z5 := HIF.out.freeS (k * 6 + 5)
      go_upto_region 15 with fail
      have HY7 := Lib.hid ((((((HIF.out.setS (k * 6) (.int .u64 (bndN p k))).setS (k * 6 + 1) (.int .u8 84)).setS (k * 6 + 2) (.string fn.name)).setS (k * 6 + 3) (.int .u64 0)).setS (k * 6 + 4) (.pointer (some ⟨fb, k * 8, none⟩))).setS (k * 6 + 5) (.int .i64 2))
      generalize World.setCell _ { block := sb, off := k * 6 + 5, spot := none } _ = y7 at *
      clear s0 s1 s2 s3 s4 s5 z0 z1 z2 z3 z4 z5 HIF
      have hs7 := HY7.out.fs
      have c0 := HY7.out.cellF (k * 8 + 1) (by omega)
      have f0 := HY7.out.freeF (k * 8 + 1)
      have HY8 := Lib.hid (HY7.out.setF (k * 8 + 1) (.pointer (some ⟨sb, k * 6, none⟩)))
      have HN : Hid (∀ j, j < k + 1 → FRow (((((fr.setIfInBounds (k * 8) (.int .u64 (bndN p k))).setIfInBounds (k * 8 + 2) (.int .u64 (bndN p (k + 1)))).setIfInBounds (k * 8 + 6) (.pointer (some ⟨lt, 0, none⟩))).setIfInBounds (k * 8 + 5) (.int .i64 fz)).setIfInBounds (k * 8 + 1) (.pointer (some ⟨sb, k * 6, none⟩)))
          ((((((sr.setIfInBounds (k * 6) (.int .u64 (bndN p k))).setIfInBounds (k * 6 + 1) (.int .u8 84)).setIfInBounds (k * 6 + 2) (.string fn.name)).setIfInBounds (k * 6 + 3) (.int .u64 0)).setIfInBounds (k * 6 + 4) (.pointer (some ⟨fb, k * 8, none⟩))).setIfInBounds (k * 6 + 5) (.int .i64 2)) sb p j) := Lib.hid (by
        intro j hj
        rcases Nat.lt_or_ge j k with h | h
        · obtain ⟨r0, r1, r2, r3, r4⟩ := HA.out.2 j h
          refine ⟨?_, ?_, ?_, ?_, ?_⟩
          · rw [set_ne (by omega), set_ne (by omega), set_ne (by omega), set_ne (by omega), set_ne (by omega)]; exact r0
          · rw [set_ne (by omega), set_ne (by omega), set_ne (by omega), set_ne (by omega), set_ne (by omega)]; exact r1
          · rw [set_ne (by omega), set_ne (by omega), set_ne (by omega), set_ne (by omega), set_ne (by omega)]; exact r2
          · rw [set_ne (by omega), set_ne (by omega), set_ne (by omega), set_ne (by omega), set_ne (by omega)]; exact r3
          · rw [set_ne (by omega), set_ne (by omega), set_ne (by omega), set_ne (by omega), set_ne (by omega), set_ne (by omega)]; exact r4
        · obtain rfl : j = k := by omega
          unfold FRow
          rw [HFN.out, HFZ.out]
          refine ⟨?_, ?_, ?_, ?_, ?_⟩
          · rw [set_ne (by omega), set_ne (by omega), set_ne (by omega), set_ne (by omega), set_eq rfl (by omega)]
          · rw [set_eq rfl (by simp only [Array.size_setIfInBounds]; omega)]
          · rw [set_ne (by omega), set_ne (by omega), set_ne (by omega), set_eq rfl (by simp only [Array.size_setIfInBounds]; omega)]
          · rw [set_ne (by omega), set_eq rfl (by simp only [Array.size_setIfInBounds]; omega)]
          · rw [set_ne (by omega), set_ne (by omega), set_ne (by omega), set_eq rfl (by simp only [Array.size_setIfInBounds]; omega)])
      have HN2 := Lib.hid (And.intro (((((HA.out.1.set (k * 8) (.int .u64 (bndN p k)) rfl).set (k * 8 + 2) (.int .u64 (bndN p (k + 1))) rfl).set (k * 8 + 6) (.pointer (some ⟨lt, 0, none⟩)) rfl).set (k * 8 + 5) (.int .i64 fz) rfl).set (k * 8 + 1) (.pointer (some ⟨sb, k * 6, none⟩)) rfl) HN.out)
      clear HY7
      go_wp2_with fail
      exact ⟨⟨k + 1, _, _, hlt2, by go_num, HY8.out, HN2⟩, by simp [intOf]; omega⟩
    · obtain rfl : k = p.funcs.length := by omega
      go_wp2_with fail
      refine leaves_cons (f := 80) (args := #[]) (by simp) (by simp [go_sem]) ?_
      refine (catchFuncs_idle _).mono ?_
      rintro e u' w'' ⟨rfl, rfl, rfl⟩
      simp [Leaves, settle, results, Try.results57, go_sem]
      exact ⟨sb, ftb, fr, sr, HF.out, HA.out.1, HA.out.2⟩
end Go.Proofs.Ytoedlabfiialfaa
