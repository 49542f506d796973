/-
  The walk through pcvalue: the value of runs at a place.
-/
import Derived.Test.YtoedlabfiialfaaGreatStep
import Derived.Deep.LoopGhost
namespace Go.Proofs.YtoedlabfiialfaaGreat
open Go.RowKit

/-- runs whose walk does not stop ahead of its end -/
def RunsFrom (last : Int) : List Run → Prop
  | [] => True
  | r :: l => r.v - last ≠ 0 ∧ 1 ≤ r.v ∧ r.v ≤ 65536 ∧ 1 ≤ r.q ∧ r.q ≤ 65536 ∧ RunsFrom r.v l
theorem runsFrom_drop {l : List Run} {most : Int} (h : RunsGood l most) (hm : most ≤ 65536) (k : Nat) (last : Int) (hl : ∀ h : k < l.length, l[k].v ≠ last) : RunsFrom last (l.drop k) := by
  induction hn : l.length - k generalizing k last with
  | zero => rw [List.drop_eq_nil_of_le (by omega)]; trivial
  | succ n ih =>
    have hk : k < l.length := by omega
    rw [List.drop_eq_getElem_cons hk]
    have hr := h.each k hk
    have h1 := hr.v1
    have h2 := hr.v2
    refine ⟨by have := hl hk; omega, h1, by omega, hr.q1, hr.q2, ih (k + 1) _ (fun hk' => ?_) (by omega)⟩
    exact fun e => (h.each (k + 1) hk').ne k rfl hk e.symm
theorem RunsGood.from {l : List Run} {most : Int} (h : RunsGood l most) (hm : most ≤ 65536) : RunsFrom (-1) l := by
  have := runsFrom_drop h hm 0 (-1) (fun h0 e => by have := (h.each 0 h0).v1; omega)
  simpa using this

theorem three_at (w : World) (o1 o2 o3 : Obj) : (((w.alloc o1).alloc o2).alloc o3).heap[w.heap.size]? = some o1 ∧ (((w.alloc o1).alloc o2).alloc o3).heap[w.heap.size + 1]? = some o2 ∧
    (((w.alloc o1).alloc o2).alloc o3).heap[w.heap.size + 1 + 1]? = some o3 ∧ Below w.heap.size w (((w.alloc o1).alloc o2).alloc o3) := by
  refine ⟨?_, ?_, ?_, ((Below.refl w.heap.size w).alloc (Nat.le_refl _) _).alloc (by simp) _ |>.alloc (by simp; omega) _⟩
  · rw [heap_alloc_old _ _ (by simp; omega), heap_alloc_old _ _ (by simp)]
    exact heap_alloc_new w _
  · rw [heap_alloc_old _ _ (by simp)]
    have := heap_alloc_new (w.alloc o1) o2
    simpa using this
  · have := heap_alloc_new ((w.alloc o1).alloc o2) o3
    simpa using this
set_option maxRecDepth 100000 in
set_option maxHeartbeats 2000000 in
theorem pcvalue_any (lt db n c off qm pc tg : Nat) (l : List Run) (W : World) (h16 : W.cell? ⟨lt, 16, none⟩ = some (.slice (some ⟨db, 0, none⟩) n c)) (h7 : W.cell? ⟨lt, 7, none⟩ = some (.int .u32 qm))
    (hm : Mem W db off (pairsB l)) (hn : off + (pairsB l).length ≤ n) (hnc : n ≤ c) (hcm : c ≤ maxLen) (hl : RunsFrom (-1) l) (h0 : 0 < l.length) (hq1 : 1 ≤ qm) (hq : qm ≤ 4) (ht : pc ≤ tg) (hb : tg ≤ 4294967296) :
    Calls Tryz.prog 68 #[.pointer (some ⟨lt, 0, none⟩), .int .u32 off, .int .u64 pc, .int .u64 tg] W
      fun e w' => e = .returned (.int .i32 (valN qm l (tg - pc))) ∧ Below W.heap.size W w' := by
  have hlt : lt < W.heap.size := World.block_lt_of_cell? W ⟨lt, 7, none⟩ h7
  have hdb : db < W.heap.size := by
    have := hm 0 (pairsFrom_pos _ _)
    exact World.block_lt_of_cell? W _ this
  have hpl := pairsFrom_pos (-1) l
  have hoff : off < n := by have h2 : off + (pairsFrom (-1) l).length ≤ n := hn; omega
  have hcm' := hcm
  unfold maxLen at hcm'
  have HM := Lib.hid hm
  have HN := Lib.hid hn
  have HL := Lib.hid hl
  have H7 := Lib.hid h7
  have H0 := Lib.hid h0
  clear hm hn hl hpl h0
  go_enter Tryz.func68, Tryz.ntmps68
  go_wp2_with fail
  go_loopg [23] (l.length) (fun k _ wr => ∃ (l' : List Run) (last : Int) (o n' c' q : Nat), l'.length = k ∧ Tri wr W.heap.size (W.heap.size + 1 + 1) (W.heap.size + 1) db o n' c' q last ∧ Mem wr db o (pairsFrom last l') ∧ RunsFrom last l' ∧
    (pairsFrom last l').length ≤ n' ∧ n' ≤ c' ∧ c' ≤ c ∧ q ≤ tg ∧ pc ≤ q ∧ (l' = [] → pc < q) ∧ -1 ≤ last ∧ last ≤ 65536 ∧ valN qm l' (tg - q) = valN qm l (tg - pc) ∧ Below W.heap.size W wr)
  case atStart =>
    refine ⟨l, -1, off, n - off, c - off, pc, rfl, ⟨?_, ?_, ?_⟩, ?_, HL.out, ?_, by omega, by omega, ht, Nat.le_refl _, ?_, by omega, by omega, rfl, ?_⟩
    · exact (three_at _ _ _ _).1
    · exact (three_at _ _ _ _).2.2.1
    · exact (three_at _ _ _ _).2.1
    · exact HM.out.keep hdb (three_at _ _ _ _).2.2.2
    · have := HN.out
      exact Nat.le_of_add_le_add_left (a := off) (by rw [show off + (n - off) = n by omega]; unfold pairsB at this; omega)
    · intro e
      have := H0.out
      rw [e] at this
      simp at this
    · exact (three_at _ _ _ _).2.2.2
  case round =>
    obtain ⟨l', last, o, n', c', q, hk, htri, hmem, hrf, hn', hnc', hc', hqt, hpq, hend, hl1, hl2, hval, hbl⟩ := hrel
    have g7 := (hbl.cell (p := ⟨lt, 7, none⟩) hlt).trans H7.out
    have gp := cell_of_one htri.pc_
    have gv := cell_of_one htri.v
    have HT := Lib.hid htri
    have HB := Lib.hid hbl
    have HV := Lib.hid hval
    have HE := Lib.hid hend
    have HF := Lib.hid hrf
    have HMM := Lib.hid hmem
    have HNN := Lib.hid hn'
    have HK := Lib.hid hk
    clear htri hbl hval hend hrf hmem hn' hk
    cases l' with
    | nil =>
      have hne : pc < q := HE.out rfl
      have hcmp : ((q : Int) == (pc : Int)) = false := by rw [beq_eq_false_iff_ne]; omega
      go_wp2_with fail
      refine (step_end lt W.heap.size (W.heap.size + 1 + 1) (W.heap.size + 1) db o n' c' q last _ HT.out HMM.out (by have := HNN.out; simp [pairsFrom] at this; omega) hnc' (by unfold maxLen; omega)).mono ?_
      rintro e w1 ⟨rfl, hfr⟩
      have HFR := Lib.hid hfr
      clear hfr
      go_wp2_with fail
      go_ret
      refine ⟨by rw [← HV.out]; rfl, HB.out.trans (HFR.out.below HB.out.size (fun k hk e => by omega))⟩
    | cons r t =>
      obtain ⟨hd0, hr1, hr2, hrq1, hrq2, hrt⟩ := HF.out
      have hprod : r.q * qm ≤ 262144 := Nat.le_trans (Nat.mul_le_mul hrq2 hq) (by omega)
      have hpos := pairsFrom_pos r.v t
      have hlv : last + (r.v - last) = r.v := by omega
      have hcmp : ((q : Int) == (pc : Int)) = decide (q = pc) := by
        by_cases h : q = pc
        · simp [h]
        · rw [decide_eq_false h, beq_eq_false_iff_ne]; omega
      go_wp2_with fail
      refine (step_more lt W.heap.size (W.heap.size + 1 + 1) (W.heap.size + 1) db o n' c' q r.q qm last (r.v - last) (pairsFrom r.v t) _ _ HT.out g7 (by omega) HMM.out hpos (by have := HNN.out; simp only [pairsFrom] at this; omega) hnc' (by unfold maxLen; omega) (by omega) hrq2 hq (by omega) (by omega) hd0).mono ?_
      rintro e w1 ⟨rfl, htri, hfr⟩
      have hb1 := HB.out.trans (hfr.below HB.out.size (fun k hk e => by omega))
      have hm1 : Mem w1 db (o + (varB (zz (r.v - last)) ++ varB r.q).length) (pairsFrom r.v t) := by
        have := HMM.out
        rw [pairsFrom, ← List.append_assoc] at this
        exact Mem.fr this.right hfr (by omega)
      rw [hlv] at htri
      have gp := cell_of_one htri.pc_
      have gv := cell_of_one htri.v
      have hval2 : valN qm (r :: t) (tg - q) = if tg < q + r.q * qm then r.v else valN qm t (tg - (q + r.q * qm)) := by
        rw [valN]
        by_cases h : tg < q + r.q * qm
        · rw [if_pos h, if_pos (by omega)]
        · rw [if_neg h, if_neg (by omega)]
          congr 1
          omega
      have hln : (pairsFrom last (r :: t)).length = (varB (zz (r.v - last)) ++ varB r.q).length + (pairsFrom r.v t).length := by
        simp only [pairsFrom, List.length_append]; omega
      have HB1 := Lib.hid hb1
      have HM1 := Lib.hid hm1
      have HT1 := Lib.hid htri
      have HV2 := Lib.hid hval2
      have HLN := Lib.hid hln
      have hqp : 1 ≤ r.q * qm := Nat.mul_pos hrq1 hq1
      clear hb1 hm1 htri hval2 hln hfr
      generalize (varB (zz (r.v - last)) ++ varB r.q).length = L at *
      generalize r.q * qm = P at *
      by_cases hin : tg < q + P
      · go_wp2_with fail
        go_ret
        refine ⟨?_, HB1.out⟩
        rw [← HV.out, HV2.out, if_pos hin]
        rfl
      · go_wp2_with fail
        go_roundg t.length
        case measure => have := HK.out; simp at this; omega
        case rel =>
          have := HLN.out
          have := HNN.out
          exact ⟨t, r.v, o + L, n' - L, c' - L, q + P, rfl, HT1.out, HM1.out, hrt, by omega, by omega, by omega, by omega, by omega, fun _ => by omega, by omega, hr2, by rw [← HV.out, HV2.out, if_neg hin], HB1.out⟩
end Go.Proofs.YtoedlabfiialfaaGreat
