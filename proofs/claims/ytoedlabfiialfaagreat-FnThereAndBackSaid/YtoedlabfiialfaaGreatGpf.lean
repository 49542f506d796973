/-
  The walk through go12PCToFile: the file of a place.
-/
import Derived.Test.YtoedlabfiialfaaGreatFmap
import Derived.Test.YtoedlabfiialfaaGreatGp
import Derived.Test.YtoedlabfiialfaaGreatLn
namespace Go.Proofs.YtoedlabfiialfaaGreat
open Go.RowKit

set_option maxRecDepth 100000 in
set_option maxHeartbeats 1000000 in
theorem pcfile_any (lt db c k : Nat) (p : Pg) (w : World) (h : LtOk w lt db c p) (hk : k < p.funcs.length) :
    Calls Tryz.prog 67 #[fdv lt db c k p] w fun e w' => e = .returned (.int .u32 ((offN p k + (strZ p.funcs[k].name).length : Nat) : Int)) ∧ Below w.heap.size w w' := by
  have HA := Lib.hid (fun o => (Below.refl w.heap.size w).alloc (Nat.le_refl _) o)
  have HH := Lib.hid h
  obtain ⟨N, hNN⟩ : ∃ N, offN p k + (strZ p.funcs[k].name).length = N := ⟨_, rfl⟩
  have HN : Hid (N < 4294967296) := Lib.hid (by rw [← hNN]; have := h.well.off_le k hk; simp only [fnBehind, List.length_append] at this; omega)
  rw [hNN]
  have HNN := Lib.hid hNN
  clear h hNN
  go_enter Tryz.func67, Tryz.ntmps67
  go_wp2_with fail
  refine Calls.mono (field_any lt db c k 4 _ p _ (HH.out.keep (HA.out _)) hk (by omega) (by rw [← HNN.out]; rfl) HN.out) ?_
  rintro e w1 ⟨rfl, hb⟩
  have HB := Lib.hid (below_next2 (HA.out _) hb)
  clear hb
  go_wp2_with fail
  go_ret
  exact ⟨rfl, HB.out⟩
theorem catchFile_idle (a : Addr) (w : World) :
    CallsD Tryz.prog 63 #[.pointer (some a)] .returning w fun e u' w' => e = .returned (.tuple #[]) ∧ u' = .returning ∧ w' = w := by
  refine callsD_of_wpS Tryz.func63 rfl fun c₀ cs hu => ?_
  apply wpS_seq
  apply wpS_region
  simp [wpOpsS, go_sem, recoverD, hu, Tryz.ntmps63, Exit.thenS]
  refine wpS_cond (t := false) (by simp [Act.eval, Array.replicate]) ?_
  simp only [Bool.false_eq_true, if_false]
  refine wpS_of_wp (wp_skip ?_)
  cases c₀
  simp_all [bodyPostS, results, Tryz.results63]

/-- what is told of the file of a place -/
def FileIs (p : Pg) (pc : Nat) (e : Ending) : Prop :=
  ((pc < bndN p 0 ∨ bndN p p.funcs.length ≤ pc) ∧ e = .returned (.string ⟨#[]⟩)) ∨
    ∃ k, ∃ _ : k < p.funcs.length, bndN p k ≤ pc ∧ pc < bndN p (k + 1) ∧ e = .returned (.string (fileN p k (pc - bndN p k)))
set_option maxRecDepth 100000 in
set_option maxHeartbeats 2000000 in
theorem go12PCToFile_any (lt db c b1 b2 pc : Nat) (lk : Int) (m3 : Value) (p : Pg) (w : World) (h : LtM w lt db c b1 b2 lk m3 p) (hpc : pc < 18446744073709551616) :
    Calls Tryz.prog 46 #[.pointer (some ⟨lt, 0, none⟩), .int .u64 pc] w fun e w' => FileIs p pc e ∧ LtM w' lt db c b1 b2 lk m3 p ∧ Fr (fun j => j = b2) w w' := by
  have hmf : ∀ (fn : Go.Fn) (first cap : Array Value) (w : World), (Instr.makeFunc fn first cap).run Tryz.prog w = .ok (.func fn first cap) w := fun _ _ _ _ => rfl
  have HM := Lib.hid h
  have HH := Lib.hid h.ok
  have hlt := h.ok.lt
  clear h
  go_enter_defers Tryz.func46, Tryz.ntmps46
  go_wp2_with fail
  generalize hW : w.alloc _ = W
  have hWb : Below w.heap.size w W := by rw [← hW]; exact (Below.refl _ _).alloc (Nat.le_refl _) _
  have HMW := Lib.hid (HM.out.keep hWb)
  have gL : W.heap[w.heap.size]? = some (.cells #[.string ⟨#[]⟩] 9 (0, 0)) := by rw [← hW]; exact heap_alloc_new _ _
  have hsW : w.heap.size < W.heap.size := by rw [← hW]; simp
  have HW := Lib.hid (HH.out.keep hWb)
  have HGL := Lib.hid gL
  clear hW gL
  refine Calls.mono (findFunc_any lt db c pc p W HW.out hpc) ?_
  rintro e w1 ⟨hb1, hcase⟩
  have e0 := (hb1.block _ hsW).trans HGL.out
  have HB1 := Lib.hid hb1
  have hs1 : w.heap.size < w1.heap.size := Nat.lt_of_lt_of_le hsW hb1.size
  have HE0 := Lib.hid e0
  clear hb1 e0
  rcases hcase with ⟨hout, rfl⟩ | ⟨k, hk, hk1, hk2, rfl⟩
  · have HO := Lib.hid hout
    clear hout
    go_wp2_with fail
    generalize hV : w1.alloc _ = V
    have hVb : Below W.heap.size W V := by rw [← hV]; exact below_next2 HB1.out ((Below.refl _ _).alloc (Nat.le_refl _) _)
    have eV : V.heap[w.heap.size]? = some (.cells #[.string ⟨#[]⟩] 9 (0, 0)) := by rw [← hV, heap_alloc_old _ _ hs1]; exact HE0.out
    have HVB := Lib.hid hVb
    have HEV := Lib.hid eV
    have hsV : w.heap.size < V.heap.size := Nat.lt_of_lt_of_le hsW hVb.size
    clear hV hVb eV
    refine Calls.mono (isZero_yes V) ?_
    rintro e w2 ⟨rfl, hb2⟩
    have HB2 := Lib.hid hb2
    have c2 := (hb2.cell (p := ⟨w.heap.size, 0, none⟩) hsV).trans (cell_of_one HEV.out)
    have f2 := (hb2.frozen (p := ⟨w.heap.size, 0, none⟩) hsV).trans (free_of_one HEV.out)
    clear hb2
    go_wp2_with fail
    have HF := Lib.hid ((below_next2 (below_next2 hWb HVB.out) HB2.out).setCell (p := ⟨w.heap.size, 0, none⟩) (Nat.le_refl _) (.string ⟨#[]⟩))
    refine leaves_cons (f := 63) (args := #[.pointer (some ⟨w.heap.size, 0, none⟩)]) (by simp) (by simp [go_sem]) ?_
    refine (catchFile_idle _ _).mono ?_
    rintro e u' w'' ⟨rfl, rfl, rfl⟩
    simp [Leaves, settle, results, Tryz.results46, go_sem, c2]
    exact ⟨.inl ⟨HO.out, rfl⟩, HM.out.keep HF.out, Fr.of_below HF.out⟩
  · have HK := Lib.hid (And.intro hk1 hk2)
    obtain ⟨N, hN⟩ : ∃ N, offN p k + (strZ p.funcs[k].name).length = N := ⟨_, rfl⟩
    have hat := bytes_pcfile p k hk
    rw [hN] at hat
    have HAT := Lib.hid hat
    have HN := Lib.hid hN
    have HPB : Hid (pc ≤ 4294967296) := Lib.hid (by have := HH.out.well.bnd_le (k + 1) hk; omega)
    have HQ : Hid (1 ≤ p.quantum.toNat ∧ p.quantum.toNat ≤ 4 ∧ ∀ {W : World}, LtOk W lt db c p → W.cell? ⟨lt, 7, none⟩ = some (.int .u32 (p.quantum.toNat : Nat))) := Lib.hid (by
      have hq := HH.out.well.head.quantum
      refine ⟨by omega, by omega, fun h => ?_⟩
      have := h.c7
      rwa [show ((p.quantum.toNat : Nat) : Int) = p.quantum by omega])
    clear hk1 hk2 hN hat
    go_wp2_with fail
    generalize hV : w1.alloc _ = V
    have hVb : Below W.heap.size W V := by rw [← hV]; exact below_next2 HB1.out ((Below.refl _ _).alloc (Nat.le_refl _) _)
    have eV : V.heap[w.heap.size]? = some (.cells #[.string ⟨#[]⟩] 9 (0, 0)) := by rw [← hV, heap_alloc_old _ _ hs1]; exact HE0.out
    have vB0 : V.cell? ⟨w1.heap.size, 0, none⟩ = some (.pointer (some ⟨lt, 0, none⟩)) := by rw [← hV]; simp
    have vB1 : V.cell? ⟨w1.heap.size, 1, none⟩ = some (.slice (some ⟨db, headN p + k * recN p, none⟩) ((bytesB p).length - (headN p + k * recN p)) (c - (headN p + k * recN p))) := by rw [← hV]; simp
    have hs1V : w1.heap.size < V.heap.size := by rw [← hV]; simp
    have HVB := Lib.hid hVb
    have HEV := Lib.hid eV
    have hsV : w.heap.size < V.heap.size := Nat.lt_of_lt_of_le hsW hVb.size
    have HV := Lib.hid (HW.out.keep hVb)
    clear hV hVb eV
    refine Calls.mono (isZero_no lt db c k p V) ?_
    rintro e w2 ⟨rfl, hb2⟩
    have HB2 := Lib.hid hb2
    have b20 := (hb2.cell (p := ⟨w1.heap.size, 0, none⟩) hs1V).trans vB0
    have b21 := (hb2.cell (p := ⟨w1.heap.size, 1, none⟩) hs1V).trans vB1
    have hs2 := Nat.lt_of_lt_of_le hs1V hb2.size
    have H2 := Lib.hid (HV.out.keep hb2)
    clear hb2 vB0 vB1
    go_wp2_with fail
    refine Calls.mono (entryPC_any lt db c k w1.heap.size p w2 H2.out hk b20 b21) ?_
    rintro e w3 ⟨rfl, hb3⟩
    have HB3 := Lib.hid (below_next2 HB2.out hb3)
    have b30 := (hb3.cell (p := ⟨w1.heap.size, 0, none⟩) hs2).trans b20
    have b31 := (hb3.cell (p := ⟨w1.heap.size, 1, none⟩) hs2).trans b21
    have H3 := Lib.hid (H2.out.keep hb3)
    clear hb3 b20 b21
    go_wp2_with fail
    have hpl := pcfile_any lt db c k p w3 H3.out hk
    rw [HN.out] at hpl
    refine hpl.mono ?_
    clear hpl
    rintro e w4 ⟨rfl, hb4⟩
    have HB4 := Lib.hid (below_next2 HB3.out hb4)
    have H4 := Lib.hid (H3.out.keep hb4)
    clear hb4 b30 b31
    go_wp2_with fail
    refine Calls.mono (pcvalue_any lt db (bytesB p).length c N p.quantum.toNat (bndN p k) pc p.funcs[k].files w4 H4.out.c16 (HQ.out.2.2 H4.out) (H4.out.mem.at HAT.out) HAT.out.le H4.out.hc H4.out.cm
      ((HH.out.well.funcs k hk).files.from (by have := HH.out.well.head.sl; omega)) (HH.out.well.funcs k hk).files.pos HQ.out.1 HQ.out.2.1 HK.out.1 HPB.out) ?_
    rintro e w5 ⟨rfl, hb5⟩
    have HB5 := Lib.hid (below_next2 HB4.out hb5)
    have r5 := (HB5.out.cell (p := ⟨w.heap.size, 0, none⟩) hsV).trans (cell_of_one HEV.out)
    have f5 := (HB5.out.frozen (p := ⟨w.heap.size, 0, none⟩) hsV).trans (free_of_one HEV.out)
    have hval := (HH.out.well.funcs k hk).files.val p.quantum.toNat (pc - bndN p k)
    have H5 := Lib.hid (H4.out.keep hb5)
    have hl5 := H5.out.lt
    have v5 := H5.out.c5
    have hs5 : w.heap.size < w5.heap.size := Nat.lt_of_lt_of_le hsV HB5.out.size
    have HFN : Hid (fileN p k (pc - bndN p k) = if 0 < valN p.quantum.toNat p.funcs[k].files (pc - bndN p k) then p.files.getD (valN p.quantum.toNat p.funcs[k].files (pc - bndN p k) - 1).toNat default else default) := Lib.hid (by
      unfold fileN
      rw [List.getD_eq_getElem?_getD, List.getElem?_eq_getElem hk]
      rfl)
    clear hb5
    generalize valN p.quantum.toNat p.funcs[k].files (pc - bndN p k) = z at *
    rcases hval with rfl | ⟨hv0, hvf⟩
    · have hfe : fileN p k (pc - bndN p k) = ⟨#[]⟩ := by rw [HFN.out, if_neg (by omega)]; rfl
      have HFE : Hid (FileIs p pc (.returned (.string ⟨#[]⟩))) := Lib.hid (.inr ⟨k, hk, HK.out.1, HK.out.2, by rw [hfe]⟩)
      clear hfe
      go_wp2_with fail
      have HF := Lib.hid ((below_next2 (below_next2 hWb HVB.out) HB5.out).setCell (p := ⟨w.heap.size, 0, none⟩) (Nat.le_refl _) (.string ⟨#[]⟩))
      refine leaves_cons (f := 63) (args := #[.pointer (some ⟨w.heap.size, 0, none⟩)]) (by simp) (by simp [go_sem]) ?_
      refine (catchFile_idle _ _).mono ?_
      rintro e u' w'' ⟨rfl, rfl, rfl⟩
      simp [Leaves, settle, results, Tryz.results46, go_sem, r5]
      exact ⟨HFE.out, HM.out.keep HF.out, Fr.of_below HF.out⟩
    · obtain ⟨m, rfl⟩ : ∃ m : Nat, z = ((m + 1 : Nat) : Int) := ⟨(z - 1).toNat, by omega⟩
      have hmf2 : m < p.files.length := by omega
      have hss : p.files.getD (((m + 1 : Nat) : Int) - 1).toNat default = p.files[m] := by
        rw [show (((m + 1 : Nat) : Int) - 1).toNat = m by omega, List.getD_eq_getElem?_getD, List.getElem?_eq_getElem hmf2]
        rfl
      have hfe : fileN p k (pc - bndN p k) = p.files[m] := by rw [HFN.out, if_pos (by omega), hss]
      have HFE : Hid (FileIs p pc (.returned (.string p.files[m]))) := Lib.hid (.inr ⟨k, hk, HK.out.1, HK.out.2, by rw [hfe]⟩)
      have hat0 := bytes_fno p m hmf2
      have hle := hat0.le
      rw [numB_length] at hle
      have hcc := HH.out.hc
      have hcm := HH.out.cm
      unfold maxLen at hcm
      have hll := HH.out.well.len_le.1
      have hsl := HH.out.well.head.sl
      have hat2 := Lib.hid (bytes_file p m hmf2)
      have htx := Lib.hid (HH.out.well.files m hmf2).1
      have hfk0 := HH.out.well.fof_le m hmf2
      have hft := filtab_le p
      obtain ⟨fo, hfo⟩ : ∃ fo, filesOff p = fo := ⟨_, rfl⟩
      obtain ⟨fk, hfk⟩ : ∃ fk, fofN p.files (baseN p) m = fk := ⟨_, rfl⟩
      rw [hfo] at hle hft
      rw [hfo, hfk] at hat0
      rw [hfk] at hat2 hfk0
      have HV2 := Lib.hid (numV_4 (big := p.big) (N := fk) (by omega))
      have HU := Lib.hid (fun W' (h' : LtM W' lt db c b1 b2 lk m3 p) o n c' (ho : o = fo + 4 * (m + 1)) (hn : 4 ≤ n) (hc : n ≤ c') => uint32_any p.big db o n c' (numB p.big fk 4) W' (numB_length _ _ _) (ho ▸ h'.mem.at hat0) hn hc)
      have HC15 := Lib.hid (fun W' (h' : LtM W' lt db c b1 b2 lk m3 p) => (show W'.cell? ⟨lt, 15, none⟩ = some (.slice (some ⟨db, fo, none⟩) ((p.files.length + 1) * 4) (c - fo)) by rw [← hfo]; exact h'.cell 15))
      have HM5 := Lib.hid ((HMW.out.keep HVB.out).keep HB5.out)
      have hd0 : decide (((m + 1 : Nat) : Int) ≤ 0) = false := decide_eq_false (by omega)
      have hd1 : decide ((m : Int) + 1 ≤ 0) = false := decide_eq_false (by omega)
      clear hat0 hfo hfk hss hfe HFN hv0 hvf
      generalize p.files[m] = s at *
      go_wp2_with fail
      have hb2w : b2 < w.heap.size := HM.out.m2.lt
      refine wp_region_dett (fun wi => LtM wi lt db c b1 b2 lk m3 p ∧ Fr (fun j => j = b2) w5 wi) 14 _ (by kernel_rfl) (by kernel_rfl) (by kernel_rfl) rfl rfl ⟨HM5.out.keep (Below.refl _ _).drew, Fr.of_below (Below.refl _ _).drew⟩ ?_
      iterate 14 (first
        | (refine wpDet_skip (by rfl) ?_; simp only [Act.put, List.setIfInBounds_toArray, List.set_cons_succ, List.set_cons_zero])
        | (apply wpDet_step
           · rfl
           · (intro wi hi K hK; have q6 := hi.1.ok.c6; have q15 := HC15.out wi hi.1; have ql := hi.1.ok.lt; have HI := Lib.hid hi; clear hi; go_wp2_with fail
              all_goals first
              | exact hK _ HI.out
              | exact HI.out
              | (go_at_call 70; (with_reducible refine Calls.mono (HU.out _ HI.out.1 _ _ _ (by omega) (by omega) (by omega)) ?_); rintro e w6 ⟨rfl, hb6⟩; rw [HV2.out]; go_wp2_with fail; all_goals first | exact hK _ ⟨HI.out.1.keep hb6, HI.out.2.trans (Fr.of_below hb6)⟩ | exact ⟨HI.out.1.keep hb6, HI.out.2.trans (Fr.of_below hb6)⟩)
              | (go_at_call 69; (with_reducible refine Calls.mono (string_any lt db c b1 b2 lk _ p fk s _ HI.out.1 hat2.out htx.out) ?_); rintro e w6 ⟨rfl, h6, f6⟩; go_wp2_with fail; all_goals first | exact hK _ ⟨h6, HI.out.2.trans f6⟩ | exact ⟨h6, HI.out.2.trans f6⟩))
           · kernel_rfl))
      refine wpDet_nil (fun wi hi => ?_)
      have hri : wi.heap[w.heap.size]? = _ := (hi.2.block _ hs5 (by omega)).trans ((HB5.out.block _ hsV).trans HEV.out)
      have ri := cell_of_one hri
      have fi := free_of_one hri
      have HIF : Hid (LtM wi lt db c b1 b2 lk m3 p ∧ Fr (fun j => j = b2) w wi) := Lib.hid ⟨hi.1, (Fr.of_below (below_next2 (below_next2 hWb HVB.out) HB5.out)).trans hi.2⟩
      clear hi hri
      go_wp2_with fail
      refine leaves_cons (f := 63) (args := #[.pointer (some ⟨w.heap.size, 0, none⟩)]) (by simp) (by simp [go_sem]) ?_
      refine (catchFile_idle _ _).mono ?_
      rintro e u' w'' ⟨rfl, rfl, rfl⟩
      simp [Leaves, settle, results, Tryz.results46, go_sem, ri]
      have hlo := HM.out.ok.lt
      have hlo2 := HM.out.ok.db
      have hlo3 := HM.out.m1.lt
      have fst : Fr (fun j => j = w.heap.size) wi (wi.setCell ⟨w.heap.size, 0, none⟩ (.string s)) := (Fr.refl (fun j => j = w.heap.size) wi).set ⟨w.heap.size, 0, none⟩ (fun _ => rfl) _
      exact ⟨HFE.out, HIF.out.1.fr fst (by omega) (by omega) (by omega) (by omega), HIF.out.2.new fst (Nat.le_refl _)⟩
end Go.Proofs.YtoedlabfiialfaaGreat
