/-
  The walk through Bounds: where a function begins and ends.
-/
import Derived.Test.YtoedlabfiialfaaGreatWellH
import Derived.Test.YtoedlabfiialfaaGreatDet
import Derived.Outline
import Derived.Deep.DeepCutAuto
namespace Go.Proofs.YtoedlabfiialfaaGreat
open Go.RowKit

theorem below_next {W0 w w' : World} (h : Below W0.heap.size W0 w) (h' : Below w.heap.size w w') : Below W0.heap.size W0 w' := h.trans (h'.mono h.size)

/-- where the function behind f begins, f begins at a: in the numbers of the machine -/
def stepW (p : Pg) (f : Fn) (a : Int) : Int := IntKind.u64.wrap (a + IntKind.u64.wrap (IntKind.u64.wrap (quantaTo f.lines f.lines.length + IntKind.u64.wrap f.free) * IntKind.u64.wrap p.quantum))
def bndW (p : Pg) : Nat → Int
  | 0 => p.start
  | k + 1 => stepW p (p.funcs.getD k default) (bndW p k)

set_option maxRecDepth 100000 in
set_option maxHeartbeats 2000000 in
theorem bounds_any (FA SA : Option Addr) (fc sc : Nat) (p : Pg) (i : Nat) (B : Nat) (w : World) (H : PgOk w B FA SA fc sc p) (hin : i < p.funcs.length) :
    Calls Tryz.prog 34 #[pgv FA SA fc sc p, .int .i64 i] w fun e w' => e = .returned (.tuple #[.int .u64 (bndW p i), .int .u64 (bndW p (i + 1))]) ∧ Below w.heap.size w w' := by
  have hb0 := below_new w (.cells #[.int .u64 p.start, .slice FA p.funcs.length fc, .slice SA p.files.length sc, .bool p.big, .bool p.wide, .int .i64 p.quantum] 26)
  have HH := H.keep (hb0.mono H.bd)
  have hbx := pbox_new w FA SA fc sc p 26
  have hfl := H.fl
  unfold maxLen at hfl
  have e0 := hbx.c0
  have e1 := hbx.c1
  have hlt0' := hbx.lt
  have hbd := H.bd
  go_enter Tryz.func34, Tryz.ntmps34
  go_wp2_with fail
  generalize (w.alloc (.cells #[.int .u64 p.start, .slice FA p.funcs.length fc, .slice SA p.files.length sc, .bool p.big, .bool p.wide, .int .i64 p.quantum] 26)) = W0 at *
  go_loopw [6, 15] (fun x m wr => ∃ k : Nat, k ≤ i ∧ m = .int .i64 k ∧ x = .int .u64 (bndW p k) ∧ Below W0.heap.size W0 wr) (fun _ m _ => i + 1 - (intOf m).toNat)
  case atStart => exact ⟨0, Nat.zero_le _, rfl, rfl, Below.refl _ _⟩
  case round =>
    obtain ⟨k, hk, rfl, rfl, hb⟩ := hrel
    have hzr := hb.size
    have hlt : k < p.funcs.length := by omega
    obtain ⟨b, off, rfl, hf⟩ := ((HH.fn).keep (hb.mono HH.bd)) k hlt
    have c0 := hf.name
    have c1 := hf.frame
    obtain ⟨LA, lc, c2, r2⟩ := hf.lines
    obtain ⟨QA, qc, c3, r3⟩ := hf.files
    have c4 := hf.free
    have HN : Hid (bndW p (k + 1) = stepW p p.funcs[k] (bndW p k)) := Lib.hid (by simp [bndW, List.getD, hlt])
    generalize p.funcs[k] = f at *
    generalize hx : bndW p k = x at *
    have HX := Lib.hid hx
    clear hx
    have hbW1 : Below W0.heap.size W0 (wr.alloc (.cells #[.string f.name, .int .i32 f.frame, .slice LA f.lines.length lc, .slice QA f.files.length qc, .int .u32 f.free] 39)) := hb.alloc hzr _
    have hx2 := cell_of_row _ _ 2 _ _ _ (heap_alloc_new wr (.cells #[.string f.name, .int .i32 f.frame, .slice LA f.lines.length lc, .slice QA f.files.length qc, .int .u32 f.free] 39))
    have hx4 := cell_of_row _ _ 4 _ _ _ (heap_alloc_new wr (.cells #[.string f.name, .int .i32 f.frame, .slice LA f.lines.length lc, .slice QA f.files.length qc, .int .u32 f.free] 39))
    have hg1 : wr.heap.size < (wr.alloc (.cells #[.string f.name, .int .i32 f.frame, .slice LA f.lines.length lc, .slice QA f.files.length qc, .int .u32 f.free] 39)).heap.size := by simp
    have hrr : Below B wr (wr.alloc (.cells #[.string f.name, .int .i32 f.frame, .slice LA f.lines.length lc, .slice QA f.files.length qc, .int .u32 f.free] 39)) := (below_new wr _).mono (Nat.le_trans HH.bd hzr)
    go_upto_region 5 with fail
    generalize (wr.alloc (.cells #[.string f.name, .int .i32 f.frame, .slice LA f.lines.length lc, .slice QA f.files.length qc, .int .u32 f.free] 39)) = W1 at *
    have hbW1' := Lib.hid hbW1
    have hx5 := (hbx.keep hbW1 hbx.lt).c5
    have hg0 := (hbx.keep hbW1 hbx.lt).lt
    have hBW : B ≤ W1.heap.size := Nat.le_trans (Nat.le_trans HH.bd hzr) (Nat.le_of_lt hg1)
    have HL := Lib.hid (fun W' (h : Below W1.heap.size W1 W') => (r2.keep hrr).keep (h.mono hBW))
    simp only [List.getElem?_toArray, List.getElem?_cons_zero, List.getElem?_cons_succ] at hx2 hx4
    clear hbW1
    refine wp_region_det (fun wi => Below W1.heap.size W1 wi) (by kernel_rfl) (by kernel_rfl) (Below.refl _ _).drew ?_
    iterate 14 (first
      | (refine wpDet_skip (by rfl) ?_; simp only [Act.put, List.setIfInBounds_toArray, List.set_cons_succ, List.set_cons_zero])
      | (apply wpDet_step
         · rfl
         · (intro wi hi K hK; have hc := (bcell hi).1; go_wp2_with fail
            all_goals first
            | exact hK _ hi
            | exact hi
            | (go_at_call 27; refine (quanta_any LA lc f.lines B _ (HL.out _ hi) (Nat.le_trans hBW hi.size)).mono ?_; rintro e w5 ⟨rfl, hb5⟩; go_wp2_with fail; all_goals first | exact hK _ (below_next hi hb5) | exact below_next hi hb5))
         · kernel_rfl))
    refine wpDet_nil (fun wi hiw => ?_)
    by_cases hki : k = i
    · subst hki
      have hd : ((k : Int) == (k : Int)) = true := by rw [beq_iff_eq]
      go_wp2_with fail
      go_ret2
      exact ⟨by rw [HN.out, HX.out]; rfl, hb0.trans ((hbW1'.out.trans (hiw.mono (Nat.le_trans hzr (Nat.le_of_lt hg1)))).mono hb0.size)⟩
    · have hd : ((k : Int) == (i : Int)) = false := by rw [beq_eq_false_iff_ne]; omega
      have hk1 : k + 1 ≤ i := by omega
      clear hki
      go_wp2_with fail
      exact ⟨⟨k + 1, hk1, by go_num, by rw [HN.out]; rfl, hbW1'.out.trans (hiw.mono (Nat.le_trans hzr (Nat.le_of_lt hg1)))⟩, by simp [intOf]; omega⟩

theorem quantaTo_eq {l : List Run} {most : Int} (h : RunsGood l most) (k : Nat) (hk : k ≤ l.length) : quantaTo l k = (((l.take k).map (·.q)).sum : Nat) ∧ ((l.take k).map (·.q)).sum ≤ k * 65536 := by
  induction k with
  | zero => simp [quantaTo]
  | succ k ih =>
    obtain ⟨h1, h2⟩ := ih (by omega)
    have hq := (h.each k (by omega)).q2
    have hl := h.le
    have e : l.getD k default = l[k] := by simp [List.getD, show k < l.length by omega]
    rw [quantaTo, h1, e, List.take_succ_eq_append_getElem (by omega)]
    simp only [List.map_append, List.map_cons, List.map_nil, List.sum_append, List.sum_cons, List.sum_nil]
    constructor
    · rw [IntKind.wrap_u64]; push_cast; omega
    · omega
theorem quantaTo_all {l : List Run} {most : Int} (h : RunsGood l most) : quantaTo l l.length = (quN l : Int) := by
  have := (quantaTo_eq h l.length (Nat.le_refl _)).1
  rw [List.take_length] at this
  exact this
theorem wrap_in (x : Int) (h : 0 ≤ x ∧ x ≤ 4294967295) : IntKind.u64.wrap x = x := by rw [IntKind.wrap_u64]; omega
theorem bndW_eq {p : Pg} (H : WellP p) (k : Nat) (hk : k ≤ p.funcs.length) : bndW p k = (bndN p k : Int) := by
  induction k with
  | zero => simp [bndW, bndN, frmN]
  | succ k ih =>
    have hlt : k < p.funcs.length := by omega
    have hf := H.funcs k hlt
    have e : p.funcs.getD k default = p.funcs[k] := by simp [List.getD, hlt]
    have hb := H.bnd_le (k + 1) hk
    have hs := bndN_succ p k hlt
    have h1 := quN_le hf.lines
    have h2 := hf.free
    have hfz := (H.fsz_le hf).2
    rw [bndW, ih (by omega), e, stepW, quantaTo_all hf.lines, wrap_in (p.funcs[k].free : Int) (by omega), wrap_in ((quN p.funcs[k].lines : Int) + (p.funcs[k].free : Int)) (by omega), wrap_in p.quantum (by have := H.head.quantum; omega)]
    have e2 : ((quN p.funcs[k].lines : Int) + (p.funcs[k].free : Int)) * p.quantum = (fsz p p.funcs[k] : Int) := by
      unfold fsz
      have := H.head.quantum
      push_cast
      rw [Int.toNat_of_nonneg (by omega)]
    rw [e2, wrap_in (fsz p p.funcs[k] : Int) (by omega), hs, wrap_in ((bndN p k : Int) + (fsz p p.funcs[k] : Int)) (by omega)]
    push_cast
    rfl
end Go.Proofs.YtoedlabfiialfaaGreat
