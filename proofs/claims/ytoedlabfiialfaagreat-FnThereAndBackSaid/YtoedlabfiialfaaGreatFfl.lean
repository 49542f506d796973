/-
  The walk through findFileLine: where a line begins, in a function of one file.
-/
import Derived.Test.YtoedlabfiialfaaGreatPcv
namespace Go.Proofs.YtoedlabfiialfaaGreat
open Go.RowKit

/-- where the first run of the line begins; 0, if there is none -/
def firstL (qm : Nat) : List Run → Int → Nat → Nat
  | [], _, _ => 0
  | r :: l, z, pc => if r.v = z then pc else firstL qm l z (pc + r.q * qm)
/-- .. in a function whose one file has the number v -/
def placeL (v : Int) (fnum : Int) (qm : Nat) (lines : List Run) (line : Int) (entry : Nat) : Nat := if v = fnum then firstL qm lines line entry else 0
theorem six_at (w : World) (o0 o1 o2 o3 o4 o5 : Obj) : ∃ X, ((((((w.alloc o0).alloc o1).alloc o2).alloc o3).alloc o4).alloc o5) = X ∧ X.heap[w.heap.size]? = some o0 ∧ X.heap[w.heap.size + 1]? = some o1 ∧ X.heap[w.heap.size + 1 + 1]? = some o2 ∧
    X.heap[w.heap.size + 1 + 1 + 1]? = some o3 ∧ X.heap[w.heap.size + 1 + 1 + 1 + 1]? = some o4 ∧ X.heap[w.heap.size + 1 + 1 + 1 + 1 + 1]? = some o5 ∧ Below w.heap.size w X := by
  obtain ⟨h0, h1, h2, hb⟩ := three_at w o0 o1 o2
  obtain ⟨k0, k1, k2, kb⟩ := three_at (((w.alloc o0).alloc o1).alloc o2) o3 o4 o5
  have hs : (((w.alloc o0).alloc o1).alloc o2).heap.size = w.heap.size + 1 + 1 + 1 := by simp
  refine ⟨_, rfl, ?_, ?_, ?_, ?_, ?_, ?_, hb.trans (kb.mono hb.size)⟩
  · rw [kb.block _ (by omega)]; exact h0
  · rw [kb.block _ (by omega)]; exact h1
  · rw [kb.block _ (by omega)]; exact h2
  · rw [← hs]; exact k0
  · rw [← hs]; exact k1
  · rw [← hs]; exact k2
theorem Tri.fr {S : Nat → Prop} {w w' : World} {pp pcp vp b o n c pc : Nat} {val : Int} (h : Tri w pp pcp vp b o n c pc val) (hf : Fr S w w') (n1 : ¬ S pp) (n2 : ¬ S pcp) (n3 : ¬ S vp) : Tri w' pp pcp vp b o n c pc val :=
  ⟨(hf.block _ (Array.getElem?_eq_some_iff.1 h.p).1 n1).trans h.p, (hf.block _ (Array.getElem?_eq_some_iff.1 h.pc_).1 n2).trans h.pc_, (hf.block _ (Array.getElem?_eq_some_iff.1 h.v).1 n3).trans h.v⟩

set_option maxRecDepth 100000 in
set_option maxHeartbeats 4000000 in
theorem findFileLine_any (lt db n c foff loff qm entry : Nat) (fnum line : Int) (rf : Run) (lines : List Run) (cut : Value) (w : World) (h5 : w.cell? ⟨lt, 5, none⟩ = some (.int .i64 2)) (h16 : w.cell? ⟨lt, 16, none⟩ = some (.slice (some ⟨db, 0, none⟩) n c)) (h7 : w.cell? ⟨lt, 7, none⟩ = some (.int .u32 qm))
    (hmf : Mem w db foff (pairsB [rf])) (hml : Mem w db loff (pairsB lines)) (hnf : foff + (pairsB [rf]).length ≤ n) (hnl : loff + (pairsB lines).length ≤ n) (hnc : n ≤ c) (hcm : c ≤ maxLen) (hf0 : 0 < foff) (hl0 : 0 < loff)
    (hrf : RunsFrom (-1) [rf]) (hrl : RunsFrom (-1) lines) (hq1 : 1 ≤ qm) (hq : qm ≤ 4) (hsum : quN lines = rf.q) (he0 : 0 < entry) (he : entry + rf.q * qm ≤ 4294967296) :
    Calls Tryz.prog 79 #[.pointer (some ⟨lt, 0, none⟩), .int .u64 entry, .int .u32 foff, .int .u32 loff, .int .i32 fnum, .int .i32 line, cut] w
      fun e w' => e = .returned (.int .u64 (placeL rf.v fnum qm lines line entry)) ∧ Below w.heap.size w w' := by
  have hlt : lt < w.heap.size := World.block_lt_of_cell? w ⟨lt, 7, none⟩ h7
  have hdb : db < w.heap.size := by
    have := hmf 0 (pairsFrom_pos _ _)
    exact World.block_lt_of_cell? w _ this
  have hfo : foff < n := by have h2 : foff + (pairsFrom (-1) [rf]).length ≤ n := hnf; have := pairsFrom_pos (-1) [rf]; omega
  have hlo : loff < n := by have h2 : loff + (pairsFrom (-1) lines).length ≤ n := hnl; have := pairsFrom_pos (-1) lines; omega
  have hcm' := hcm
  unfold maxLen at hcm'
  have HMF := Lib.hid hmf
  have HML := Lib.hid hml
  have HNF := Lib.hid hnf
  have HNL := Lib.hid hnl
  have HRF := Lib.hid hrf
  have HRL := Lib.hid hrl
  have HS := Lib.hid hsum
  have H5 := Lib.hid h5
  have H7 := Lib.hid h7
  have z1 : ((foff : Int) == 0) = false := by rw [beq_eq_false_iff_ne]; omega
  have z2 : ((loff : Int) == 0) = false := by rw [beq_eq_false_iff_ne]; omega
  clear hmf hml hnf hnl hrf hrl hsum
  go_enter Tryz.func79, Tryz.ntmps79
  go_wp2_with fail
  obtain ⟨X, hX, x0, x1, x2, x3, x4, x5, xb⟩ := six_at w (.cells #[.slice (some ⟨db, foff, none⟩) (n - foff) (c - foff)] 31) (.cells #[.slice (some ⟨db, loff, none⟩) (n - loff) (c - loff)] 31) (.cells #[.int .i32 (-1)] 21) (.cells #[.int .u64 entry] 22) (.cells #[.int .i32 (-1)] 21) (.cells #[.int .u64 entry] 22)
  rw [hX]
  have HTF : Hid (Tri X w.heap.size (w.heap.size + 1 + 1 + 1) (w.heap.size + 1 + 1) db foff (n - foff) (c - foff) entry (-1)) := Lib.hid ⟨x0, x3, x2⟩
  have HTL : Hid (Tri X (w.heap.size + 1) (w.heap.size + 1 + 1 + 1 + 1 + 1) (w.heap.size + 1 + 1 + 1 + 1) db loff (n - loff) (c - loff) entry (-1)) := Lib.hid ⟨x1, x5, x4⟩
  have HXB := Lib.hid xb
  clear hX x0 x1 x2 x3 x4 x5 xb
  have hA : w.heap.size < w.heap.size + 1 ∧ w.heap.size + 1 < w.heap.size + 1 + 1 ∧ w.heap.size + 1 + 1 < w.heap.size + 1 + 1 + 1 ∧ w.heap.size + 1 + 1 + 1 < w.heap.size + 1 + 1 + 1 + 1 ∧ w.heap.size + 1 + 1 + 1 + 1 < w.heap.size + 1 + 1 + 1 + 1 + 1 := by omega
  have HA := Lib.hid hA
  clear hA
  generalize w.heap.size + 1 + 1 + 1 + 1 + 1 = A5 at *
  generalize w.heap.size + 1 + 1 + 1 + 1 = A4 at *
  generalize w.heap.size + 1 + 1 + 1 = A3 at *
  generalize w.heap.size + 1 + 1 = A2 at *
  generalize w.heap.size + 1 = A1 at *
  have hA0 : w.heap.size ≤ w.heap.size := Nat.le_refl _
  go_loopg [21] (1) (fun k s wr => Hid (Below w.heap.size w wr) ∧ ((k = 1 ∧ s = .int .u64 entry ∧ Hid (Tri wr w.heap.size A3 A2 db foff (n - foff) (c - foff) entry (-1) ∧ Tri wr A1 A5 A4 db loff (n - loff) (c - loff) entry (-1))) ∨
    (k = 0 ∧ s = .int .u64 ((entry + rf.q * qm : Nat) : Int) ∧ Hid (∃ o' n' c', Tri wr w.heap.size A3 A2 db o' n' c' (entry + rf.q * qm) rf.v ∧ Mem wr db o' [0] ∧ 0 < n' ∧ n' ≤ c' ∧ c' ≤ maxLen) ∧ Hid ((placeL rf.v fnum qm lines line entry) = 0))))
  case atStart => exact ⟨HXB, .inl ⟨rfl, rfl, Lib.hid ⟨HTF.out, HTL.out⟩⟩⟩
  case round =>
    obtain ⟨hbl, hcase⟩ := hrel
    have hb := hbl.out
    have g5 := (hb.cell (p := ⟨lt, 5, none⟩) hlt).trans H5.out
    have g7 := (hb.cell (p := ⟨lt, 7, none⟩) hlt).trans H7.out
    have hA := HA.out
    rcases hcase with ⟨rfl, rfl, htri⟩ | ⟨rfl, rfl, htri, hres⟩
    · have HF := Lib.hid htri.out.1
      have HT := Lib.hid htri.out.2
      have gp := cell_of_one HF.out.pc_
      have gv := cell_of_one HF.out.v
      have gl := cell_of_one HT.out.pc_
      have hmf : Mem wr db foff (pairsFrom (-1) [rf]) := HMF.out.keep hdb hb
      obtain ⟨hd0, hr1, hr2, hrq1, hrq2, _⟩ := HRF.out
      have hlv : (-1 : Int) + (rf.v - -1) = rf.v := by omega
      have hprod : rf.q * qm ≤ 262144 := Nat.le_trans (Nat.mul_le_mul hrq2 hq) (by omega)
      have hpp : 1 ≤ rf.q * qm := Nat.mul_pos hrq1 hq1
      have hfst : ((entry : Int) == (entry : Int)) = true := by simp
      clear hb htri
      have hln : (pairsFrom (-1) [rf]).length = (varB (zz (rf.v - -1)) ++ varB rf.q).length + 1 := by simp only [pairsFrom, List.length_append, List.length_cons, List.length_nil]; omega
      have hnn : (pairsFrom (-1) [rf]).length ≤ n - foff := by have h2 : foff + (pairsFrom (-1) [rf]).length ≤ n := HNF.out; omega
      go_wp2_with fail
      refine (step_more lt w.heap.size A3 A2 db foff (n - foff) (c - foff) entry rf.q qm (-1) (rf.v - -1) (pairsFrom rf.v []) _ _ HF.out g7 (by omega) hmf (pairsFrom_pos _ _) hnn (by omega) (by unfold maxLen; omega) (by omega) hrq2 hq (by omega) (by omega) hd0).mono ?_
      rintro e w1 ⟨rfl, htr, hfr⟩
      rw [hlv] at htr
      have hb1 : Below w.heap.size w w1 := hbl.out.trans (hfr.below hbl.out.size (fun k hk e => by omega))
      have HB1 := Lib.hid hb1
      have HT1 : Hid (Tri w1 A1 A5 A4 db loff (n - loff) (c - loff) entry (-1)) := Lib.hid (HT.out.fr hfr (by omega) (by omega) (by omega))
      have HM1 : Hid (Mem w1 db (foff + (varB (zz (rf.v - -1)) ++ varB rf.q).length) [0]) := Lib.hid (by
        have := hmf
        rw [pairsFrom, ← List.append_assoc] at this
        exact Mem.fr this.right hfr (by omega))
      have HF1 := Lib.hid htr
      have f5 := (hb1.cell (p := ⟨lt, 5, none⟩) hlt).trans H5.out
      have f7 := (hb1.cell (p := ⟨lt, 7, none⟩) hlt).trans H7.out
      have fp := cell_of_one htr.pc_
      have fv := cell_of_one htr.v
      have fl := cell_of_one HT1.out.pc_
      have hml : Mem w1 db loff (pairsFrom (-1) lines) := HML.out.keep hdb hb1
      have HML1 := Lib.hid hml
      clear gp gv gl g5 g7 hmf htr hfr hb1 HF HT hml
      generalize (varB (zz (rf.v - -1)) ++ varB rf.q).length = L at *
      have HLN := Lib.hid (And.intro hln hnn)
      clear hln hnn
      generalize hP : rf.q * qm = P at *
      have HP := Lib.hid hP
      clear hP
      have HEND : Hid (∃ o' n' c', Tri w1 w.heap.size A3 A2 db o' n' c' (entry + P) rf.v ∧ Mem w1 db o' [0] ∧ 0 < n' ∧ n' ≤ c' ∧ c' ≤ maxLen) := Lib.hid ⟨_, _, _, HF1.out, HM1.out, by have := HLN.out; omega, by omega, by unfold maxLen; omega⟩
      have hEP0 : entry < entry + P := by omega
      generalize hEP : entry + P = EP at *
      have HEP := Lib.hid hEP
      clear hEP
      by_cases hfn : rf.v = fnum
      · have hdq : (rf.v == fnum) = true := by simp [hfn]
        go_wp2_with fail
        go_loopg [23] (lines.length) (fun k s wx => ∃ (l' : List Run) (last : Int) (o' n' c' q : Nat), l'.length = k ∧ s = .int .u64 q ∧ Hid (Tri wx A1 A5 A4 db o' n' c' q last) ∧ Hid (Mem wx db o' (pairsFrom last l')) ∧ Hid (RunsFrom last l') ∧
          Hid ((pairsFrom last l').length ≤ n') ∧ n' ≤ c' ∧ c' ≤ c ∧ entry ≤ q ∧ Hid (q + quN l' * qm = EP) ∧ Hid (firstL qm l' line q = firstL qm lines line entry) ∧ -1 ≤ last ∧ last ≤ 65536 ∧ Hid (Fr (fun k => k = A1 ∨ k = A5 ∨ k = A4) w1 wx))
        case atStart =>
          exact ⟨lines, -1, loff, n - loff, c - loff, entry, rfl, rfl, HT1, HML1, HRL, Lib.hid (by have h2 : loff + (pairsFrom (-1) lines).length ≤ n := HNL.out; omega), by omega, by omega, Nat.le_refl _, Lib.hid (by rw [HS.out, HP.out, HEP.out]), Lib.hid rfl, by omega, by omega, Lib.hid (Fr.refl _ _)⟩
        case round =>
          obtain ⟨l', last, o', n', c', q, hk, rfl, HT2, HM2, HR2, HN2, hnc2, hcc2, heq, HQ2, HV2, hl1, hl2, HFR⟩ := hrel
          have hfr := HFR.out
          have hA1 : A1 < w1.heap.size := (Array.getElem?_eq_some_iff.1 HT1.out.p).1
          have g7 := hfr.cell f7 (by omega)
          have g3 := hfr.cell fp (by omega)
          have gl := cell_of_one HT2.out.pc_
          have gw := cell_of_one HT2.out.v
          have HBX : Hid (Below w.heap.size w wr) := Lib.hid (HB1.out.trans (hfr.below HB1.out.size (fun k hk e => by omega)))
          clear hfr
          cases l' with
          | nil =>
            have hq' : q = EP := by have := HQ2.out; simpa [quN] using this
            subst hq'
            have hd : decide ((q : Int) < (q : Int)) = false := by simp
            have hdn : decide (q < q) = false := by simp
            go_wp2_with fail
            go_roundg 0
            case measure => omega
            case rel =>
              obtain ⟨o2, n2, c2, y1, y2, y3, y4, y5⟩ := HEND.out
              exact ⟨HBX, .inr ⟨rfl, rfl, Lib.hid ⟨o2, n2, c2, y1.fr HFR.out (by omega) (by omega) (by omega), y2.fr HFR.out (by omega), y3, y4, y5⟩, Lib.hid (by unfold placeL; rw [if_pos hfn, ← HV2.out]; rfl)⟩⟩
          | cons r t =>
            obtain ⟨hd0', hr1', hr2', hrq1', hrq2', hrt⟩ := HR2.out
            have HRT := Lib.hid hrt
            have hprod2 : r.q * qm ≤ 262144 := Nat.le_trans (Nat.mul_le_mul hrq2' hq) (by omega)
            have hqp : 1 ≤ r.q * qm := Nat.mul_pos hrq1' hq1
            have hqs : quN (r :: t) = r.q + quN t := by simp [quN]
            have hqe : q + r.q * qm + quN t * qm = EP := by have := HQ2.out; rw [hqs, Nat.add_mul] at this; omega
            have hlv2 : last + (r.v - last) = r.v := by omega
            have hlt3 : q < EP := by omega
            have hd : decide ((q : Int) < (EP : Int)) = true := by simp; omega
            have hdn : decide (q < EP) = true := by simp; omega
            have hln2 : (pairsFrom last (r :: t)).length = (varB (zz (r.v - last)) ++ varB r.q).length + (pairsFrom r.v t).length := by
              simp only [pairsFrom, List.length_append]; omega
            have hcmp : ((q : Int) == (entry : Int)) = decide (q = entry) := by
              by_cases h : q = entry
              · simp [h]
              · rw [decide_eq_false h, beq_eq_false_iff_ne]; omega
            have HQE := Lib.hid hqe
            have HLN2 := Lib.hid hln2
            clear hqs hqe hln2 hrt
            go_wp2_with fail
            refine (step_more lt A1 A5 A4 db o' n' c' q r.q qm last (r.v - last) (pairsFrom r.v t) _ _ HT2.out g7 (by omega) HM2.out (pairsFrom_pos _ _) HN2.out hnc2 (by unfold maxLen; omega) (by omega) hrq2' hq (by omega) (by omega) hd0').mono ?_
            rintro e w2 ⟨rfl, htr, hfr⟩
            rw [hlv2] at htr
            have HT3 := Lib.hid htr
            have gw := cell_of_one htr.v
            have gl := cell_of_one htr.pc_
            have HFR2 : Hid (Fr (fun k => k = A1 ∨ k = A5 ∨ k = A4) w1 w2) := Lib.hid (Fr.trans HFR.out hfr)
            have g3 := HFR2.out.cell fp (by omega)
            have HBX2 : Hid (Below w.heap.size w w2) := Lib.hid (HB1.out.trans (HFR2.out.below HB1.out.size (fun k hk e => by omega)))
            have HM3 : Hid (Mem w2 db (o' + (varB (zz (r.v - last)) ++ varB r.q).length) (pairsFrom r.v t)) := Lib.hid (by
              have := HM2.out
              rw [pairsFrom, ← List.append_assoc] at this
              exact Mem.fr this.right hfr (by omega))
            clear htr hfr
            generalize (varB (zz (r.v - last)) ++ varB r.q).length = L2 at *
            generalize hP2 : r.q * qm = P2 at *
            have HP2 := Lib.hid hP2
            clear hP2
            by_cases hfl : r.v = line
            · have hdl : (r.v == line) = true := by simp [hfl]
              have hde : decide ((entry : Int) ≤ (q : Int)) = true := by simp; omega
              have hden : decide (entry ≤ q) = true := by simp; omega
              go_wp2_with fail
              go_ret
              refine ⟨?_, HBX2.out⟩
              have hv : placeL rf.v fnum qm lines line entry = q := by
                unfold placeL
                rw [if_pos hfn, ← HV2.out, firstL, if_pos hfl]
              rw [hv]
              rfl
            · have hdl : (r.v == line) = false := by simp [hfl]
              go_wp2_with fail
              go_roundg t.length
              case measure => simp at hk; omega
              case rel =>
                have h1 := HLN2.out
                have h2 := HN2.out
                exact ⟨t, r.v, o' + L2, n' - L2, c' - L2, q + P2, rfl, rfl, HT3, HM3, HRT, Lib.hid (by omega), by omega, by omega, by omega, HQE, Lib.hid (by rw [← HV2.out, firstL, if_neg hfl, HP2.out]), by omega, hr2', HFR2⟩
      · have hdq : (rf.v == fnum) = false := by simp [hfn]
        go_wp2_with fail
        go_roundg 0
        case measure => omega
        case rel => exact ⟨HB1, .inr ⟨rfl, rfl, HEND, Lib.hid (by unfold placeL; rw [if_neg hfn])⟩⟩
    · obtain ⟨o', n', c', htr, hme, hn', hc', hcm2⟩ := htri.out
      have HF := Lib.hid htr
      have gp := cell_of_one htr.pc_
      have gv := cell_of_one htr.v
      have hpp : 1 ≤ rf.q * qm := Nat.mul_pos HRF.out.2.2.2.1 hq1
      have HM := Lib.hid hme
      clear htr hme htri hb
      generalize rf.q * qm = P at *
      have hEP0 : entry < entry + P := by omega
      generalize entry + P = EP at *
      have hcmp : ((EP : Int) == (entry : Int)) = false := by rw [beq_eq_false_iff_ne]; omega
      go_wp2_with fail
      refine (step_end lt w.heap.size A3 A2 db o' n' c' EP rf.v _ HF.out HM.out hn' hc' hcm2).mono ?_
      rintro e w1 ⟨rfl, hfr⟩
      have HB1 : Hid (Below w.heap.size w w1) := Lib.hid (hbl.out.trans (hfr.below hbl.out.size (fun k hk e => by omega)))
      clear hfr
      go_wp2_with fail
      go_ret
      exact ⟨by rw [hres.out]; rfl, HB1.out⟩
end Go.Proofs.YtoedlabfiialfaaGreat
