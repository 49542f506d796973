/-
  The walk through the record of a function: funcData and its fields.
-/
import Derived.Test.YtoedlabfiialfaaGreatLt
namespace Go.Proofs.YtoedlabfiialfaaGreat
open Go.RowKit

abbrev fdv (lt db c k : Nat) (p : Pg) : Value := .agg #[.pointer (some ⟨lt, 0, none⟩), .slice (some ⟨db, headN p + k * recN p, none⟩) ((bytesB p).length - (headN p + k * recN p)) (c - (headN p + k * recN p))]

set_option maxRecDepth 100000 in
set_option maxHeartbeats 1000000 in
theorem funcData_any (lt db c k : Nat) (p : Pg) (w : World) (h : LtOk w lt db c p) (hk : k < p.funcs.length) :
    Calls Tryz.prog 78 #[.pointer (some ⟨lt, 0, none⟩), .int .u32 k] w fun e w' => e = .returned (fdv lt db c k p) ∧ Below w.heap.size w w' := by
  have hlt := h.lt
  have hfl := h.well.head.fl
  have hl5 := h.well.len_le
  have hc := h.hc
  have hcm := h.cm
  unfold maxLen at hcm
  have hle := (bytes_rec p k hk).le
  rw [recB_length] at hle
  have hrn : 36 ≤ recN p := by unfold recN; rcases wszN_or p with h | h <;> omega
  have HA := Lib.hid (fun o => (Below.refl w.heap.size w).alloc (Nat.le_refl _) o)
  have HH := Lib.hid h
  have c12 := h.c12
  clear h
  unfold fdv
  generalize hoff : headN p + k * recN p = off at *
  have HO := Lib.hid hoff
  have hoc : off < c := by omega
  clear hoff
  go_enter Tryz.func78, Tryz.ntmps78
  go_wp2_with fail
  generalize hW : w.alloc _ = W
  have hWb : Below w.heap.size w W := by rw [← hW]; exact HA.out _
  have g0 : W.heap[w.heap.size]? = some (.cells #[.pointer none, .slice none 0 0] 147 (0, 0)) := by rw [← hW]; exact heap_alloc_new _ _
  have hs : w.heap.size < W.heap.size := by rw [← hW]; simp
  have hltW : lt < W.heap.size := Nat.lt_of_lt_of_le hlt hWb.size
  have d12 := (hWb.cell (p := ⟨lt, 12, none⟩) hlt).trans c12
  have HW := Lib.hid (HH.out.keep hWb)
  have HG := Lib.hid g0
  clear hW g0
  refine wp_region_det (fun wi => Below W.heap.size W wi) (by kernel_rfl) (by kernel_rfl) (Below.refl _ _).drew ?_
  iterate 11 (first
    | (refine wpDet_skip (by rfl) ?_; simp only [Act.put, List.setIfInBounds_toArray, List.set_cons_succ, List.set_cons_zero])
    | (apply wpDet_step
       · rfl
       · (intro wi hi K hK; have hc := (bcell hi).1; go_wp2_with fail
          all_goals first
          | exact hK _ hi
          | exact hi
          | (go_at_call 88; (with_reducible refine Calls.mono (funcTab_any lt p _ (HW.out.keep hi).c5 (HW.out.keep hi).c8) ?_); rintro e w5 ⟨rfl, hb5⟩; go_wp2_with fail; all_goals first | exact hK _ (below_next2 hi hb5) | exact below_next2 hi hb5)
          | (go_at_call 102; (with_reducible refine Calls.mono (funcOff_any lt db c k p _ (HW.out.keep hi) hk) ?_); rintro e w5 ⟨rfl, hb5⟩; rw [HO.out]; go_wp2_with fail; all_goals first | exact hK _ (below_next2 hi hb5) | exact below_next2 hi hb5))
       · kernel_rfl))
  refine wpDet_nil (fun wi hi => ?_)
  have e0 := (hi.block _ hs).trans HG.out
  have e1 : wi.cell? ⟨w.heap.size, 0, none⟩ = some (.pointer none) := cell_of_row wi _ _ _ _ _ e0
  have e2 : wi.cell? ⟨w.heap.size, 1, none⟩ = some (.slice none 0 0) := cell_of_row wi _ _ _ _ _ e0
  have e3 : wi.frozen? ⟨w.heap.size, 0, none⟩ = false := by simp [World.frozen?, e0]
  have e4 : wi.frozen? ⟨w.heap.size, 1, none⟩ = false := by simp [World.frozen?, e0]
  have r1 := heap_setCell_same wi w.heap.size 0 _ _ (.pointer (some ⟨lt, 0, none⟩)) e0
  have r2 := heap_setCell_same _ w.heap.size 1 _ _ (.slice (some ⟨db, off, none⟩) ((bytesB p).length - off) (c - off)) r1
  have R2 := Lib.hid r2
  clear r1 r2
  have hsi : w.heap.size < wi.heap.size := Nat.lt_of_lt_of_le hs hi.size
  go_wp2_with fail
  refine bodyPost_ret (results_cell_row rfl _ _ _ _ _ _ _ rfl R2.out Tryz.underlying147 rfl (by kernel_rfl)) rfl ?_
  exact ⟨rfl, ((below_next2 hWb hi).setCell (p := ⟨w.heap.size, 0, none⟩) (Nat.le_refl _) _).setCell (p := ⟨w.heap.size, 1, none⟩) (Nat.le_refl _) _⟩
set_option maxRecDepth 100000 in
set_option maxHeartbeats 1000000 in
theorem field_any (lt db c k j N : Nat) (p : Pg) (w : World) (h : LtOk w lt db c p) (hk : k < p.funcs.length) (hj : j < 8) (hN : (recNums (offN p k) p.funcs[k])[j]? = some N) (hN2 : N < 4294967296) :
    Calls Tryz.prog 97 #[fdv lt db c k p, .int .u32 ((j + 1 : Nat) : Int)] w fun e w' => e = .returned (.int .u32 N) ∧ Below w.heap.size w w' := by
  have hlt := h.lt
  have hdb := h.db
  have hfl := h.well.head.fl
  have hl5 := h.well.len_le
  have hc := h.hc
  have hcm := h.cm
  unfold maxLen at hcm
  have hat := bytes_field p k hk j hj
  have hN' : (recNums (offN p k) p.funcs[k])[j]'(by simpa [recNums] using hj) = N := by
    obtain ⟨h1, h2⟩ := List.getElem?_eq_some_iff.1 hN
    exact h2
  rw [hN'] at hat
  have hle := hat.le
  rw [numB_length] at hle
  have hm := h.mem.at hat
  have HL := Lib.hid (numB_length p.big N 4)
  have HV := Lib.hid (numV_4 (big := p.big) hN2)
  have HM := Lib.hid hm
  have c5 := h.c5
  have c6 := h.c6
  have c8 := h.c8
  have hws : wszN p ≤ 8 := by rcases wszN_or p with h | h <;> omega
  have HA := Lib.hid (fun o => (Below.refl w.heap.size w).alloc (Nat.le_refl _) o)
  clear h hat hN' hN hm
  unfold fdv
  generalize headN p + k * recN p = off at *
  generalize wszN p = z at *
  have HM2 : Hid (Mem w db (off + (z + j * 4)) (numB p.big N 4)) := Lib.hid (by have := HM.out; rwa [Nat.mul_comm 4 j] at this)
  have hz : ((j : Int) + 1 == 0) = false := by rw [beq_eq_false_iff_ne]; omega
  have hz9 : decide (9 < (j : Int) + 1) = false := by rw [decide_eq_false_iff_not]; omega
  go_enter Tryz.func97, Tryz.ntmps97
  go_wp2_with fail
  refine Calls.mono (uint32_any p.big db _ _ _ (numB p.big N 4) _ HL.out (HM2.out.keep hdb (HA.out _)) (by omega) (by omega)) ?_
  rintro e w1 ⟨rfl, hb⟩
  rw [HV.out]
  have HB := Lib.hid (below_next2 (HA.out _) hb)
  clear hb
  go_wp2_with fail
  go_ret
  exact ⟨rfl, HB.out⟩
set_option maxRecDepth 100000 in
set_option maxHeartbeats 1000000 in
theorem nameOff_any (lt db c k : Nat) (p : Pg) (w : World) (h : LtOk w lt db c p) (hk : k < p.funcs.length) :
    Calls Tryz.prog 93 #[fdv lt db c k p] w fun e w' => e = .returned (.int .u32 ((offN p k : Nat) : Int)) ∧ Below w.heap.size w w' := by
  have HA := Lib.hid (fun o => (Below.refl w.heap.size w).alloc (Nat.le_refl _) o)
  have HH := Lib.hid h
  obtain ⟨N, hNN⟩ : ∃ N, offN p k = N := ⟨_, rfl⟩
  have HN : Hid (N < 4294967296) := Lib.hid (by rw [← hNN]; have := h.well.off_le k hk; simp only [fnBehind, List.length_append] at this; omega)
  rw [hNN]
  have HNN := Lib.hid hNN
  clear h hNN
  go_enter Tryz.func93, Tryz.ntmps93
  go_wp2_with fail
  refine Calls.mono (field_any lt db c k 0 _ p _ (HH.out.keep (HA.out _)) hk (by omega) (by rw [← HNN.out]; rfl) HN.out) ?_
  rintro e w1 ⟨rfl, hb⟩
  have HB := Lib.hid (below_next2 (HA.out _) hb)
  clear hb
  go_wp2_with fail
  go_ret
  exact ⟨rfl, HB.out⟩
set_option maxRecDepth 100000 in
set_option maxHeartbeats 1000000 in
theorem deferreturn_any (lt db c k : Nat) (p : Pg) (w : World) (h : LtOk w lt db c p) (hk : k < p.funcs.length) :
    Calls Tryz.prog 91 #[fdv lt db c k p] w fun e w' => e = .returned (.int .u32 ((p.funcs[k].frame.toNat : Nat) : Int)) ∧ Below w.heap.size w w' := by
  have HA := Lib.hid (fun o => (Below.refl w.heap.size w).alloc (Nat.le_refl _) o)
  have HH := Lib.hid h
  obtain ⟨N, hNN⟩ : ∃ N, p.funcs[k].frame.toNat = N := ⟨_, rfl⟩
  have HN : Hid (N < 4294967296) := Lib.hid (by rw [← hNN]; have := (h.well.funcs k hk).fr1; omega)
  rw [hNN]
  have HNN := Lib.hid hNN
  clear h hNN
  go_enter Tryz.func91, Tryz.ntmps91
  go_wp2_with fail
  refine Calls.mono (field_any lt db c k 2 _ p _ (HH.out.keep (HA.out _)) hk (by omega) (by rw [← HNN.out]; rfl) HN.out) ?_
  rintro e w1 ⟨rfl, hb⟩
  have HB := Lib.hid (below_next2 (HA.out _) hb)
  clear hb
  go_wp2_with fail
  go_ret
  exact ⟨rfl, HB.out⟩
set_option maxRecDepth 100000 in
set_option maxHeartbeats 1000000 in
theorem pcln_any (lt db c k : Nat) (p : Pg) (w : World) (h : LtOk w lt db c p) (hk : k < p.funcs.length) :
    Calls Tryz.prog 74 #[fdv lt db c k p] w fun e w' => e = .returned (.int .u32 ((offN p k + (strZ p.funcs[k].name).length + (pairsB p.funcs[k].files).length : Nat) : Int)) ∧ Below w.heap.size w w' := by
  have HA := Lib.hid (fun o => (Below.refl w.heap.size w).alloc (Nat.le_refl _) o)
  have HH := Lib.hid h
  obtain ⟨N, hNN⟩ : ∃ N, offN p k + (strZ p.funcs[k].name).length + (pairsB p.funcs[k].files).length = N := ⟨_, rfl⟩
  have HN : Hid (N < 4294967296) := Lib.hid (by rw [← hNN]; have := h.well.off_le k hk; simp only [fnBehind, List.length_append] at this; omega)
  rw [hNN]
  have HNN := Lib.hid hNN
  clear h hNN
  go_enter Tryz.func74, Tryz.ntmps74
  go_wp2_with fail
  refine Calls.mono (field_any lt db c k 5 _ p _ (HH.out.keep (HA.out _)) hk (by omega) (by rw [← HNN.out]; rfl) HN.out) ?_
  rintro e w1 ⟨rfl, hb⟩
  have HB := Lib.hid (below_next2 (HA.out _) hb)
  clear hb
  go_wp2_with fail
  go_ret
  exact ⟨rfl, HB.out⟩
end Go.Proofs.YtoedlabfiialfaaGreat
