/-
  The walk through go12LineToPC: the first place of a line, in programs of one file for each function.
-/
import Derived.Test.YtoedlabfiialfaaGreatFfl
import Derived.Test.YtoedlabfiialfaaGreatGpf
import Derived.Test.YtoedlabfiialfaaGreatGmf
namespace Go.Proofs.YtoedlabfiialfaaGreat
open Go.RowKit

/-- the file that function k names -/
def fvN (p : Pg) (k : Nat) : Int := ((p.funcs.getD k default).files.getD 0 default).v
def atL (p : Pg) (z line : Int) (k : Nat) : Nat := placeL (fvN p k) z p.quantum.toNat (p.funcs.getD k default).lines line (bndN p k)
/-- the first place of the line in the functions from k on; 0, if there is none -/
def placeG (p : Pg) (z line : Int) : Nat → Nat → Nat
  | 0, _ => 0
  | m + 1, k => if atL p z line k = 0 then placeG p z line m (k + 1) else atL p z line k
theorem catchPlace_idle (a : Addr) (w : World) :
    CallsD Tryz.prog 76 #[.pointer (some a)] .returning w fun e u' w' => e = .returned (.tuple #[]) ∧ u' = .returning ∧ w' = w := by
  refine callsD_of_wpS Tryz.func76 rfl fun c₀ cs hu => ?_
  apply wpS_seq
  apply wpS_region
  simp [wpOpsS, go_sem, recoverD, hu, Tryz.ntmps76, Exit.thenS]
  refine wpS_cond (t := false) (by simp [Act.eval, Array.replicate]) ?_
  simp only [Bool.false_eq_true, if_false]
  refine wpS_of_wp (wp_skip ?_)
  cases c₀
  simp_all [bodyPostS, results, Tryz.results76]
theorem zero_u32 (w : World) : (zeroValue 37).run Tryz.prog w = .ok (.int .u32 0) w := by kernel_rfl

set_option maxRecDepth 100000 in
set_option maxHeartbeats 4000000 in
theorem go12LineToPC_any (lt db c b1 b2 b3 i z : Nat) (line : Int) (s : ByteArray) (p : Pg) (w : World) (h : LtM w lt db c b1 b2 0 (.map (some b3)) p) (h3 : MapL kS w b3 (fileL p.files 1)) (hfd : findL s (fileL p.files 1) 0 = some (i, .int .u32 (z : Int))) (hz : z ≤ 1000)
    (hb3 : lt ≠ b3) (hone : ∀ k (hk : k < p.funcs.length), p.funcs[k].files.length = 1) (hln : -2147483648 ≤ line ∧ line ≤ 2147483647) :
    Calls Tryz.prog 52 #[.pointer (some ⟨lt, 0, none⟩), .string s, .int .i64 line] w fun e w' => e = .returned (.int .u64 (placeG p z line p.funcs.length 0)) ∧ LtM w' lt db c b1 b2 0 (.map (some b3)) p ∧ Fr (fun j => j = lt) w w' := by
  have hmf : ∀ (fn : Go.Fn) (first cap : Array Value) (w : World), (Instr.makeFunc fn first cap).run Tryz.prog w = .ok (.func fn first cap) w := fun _ _ _ _ => rfl
  have HH := Lib.hid h
  have H3 := Lib.hid h3
  have hlt := h.ok.lt
  have hfl := h.well.head.fl
  have HLK : Hid (∀ W, MapL kS W b3 (fileL p.files 1) → (Instr.lookup 135 (.map (some b3)) (.string s) true).run Tryz.prog W = .ok (.tuple #[.int .u32 (z : Int), .bool true]) W) := Lib.hid (fun W hm => by
    have := hm.look KS Tryz.underlying135 (zero_u32 W) s
    rw [hfd] at this
    exact this)
  clear h h3 hfd
  go_enter_defers Tryz.func52, Tryz.ntmps52
  go_wp2_with fail
  generalize hW : w.alloc _ = W
  have hWb : Below w.heap.size w W := by rw [← hW]; exact (Below.refl _ _).alloc (Nat.le_refl _) _
  have gL : W.heap[w.heap.size]? = some (.cells #[.int .u64 0] 22 (0, 0)) := by rw [← hW]; exact heap_alloc_new _ _
  have hsW : w.heap.size < W.heap.size := by rw [← hW]; simp
  have HGL := Lib.hid gL
  have HWB := Lib.hid hWb
  have HW := Lib.hid (HH.out.keep hWb)
  clear hW gL hWb
  refine Calls.mono (initFileMap_old lt db c b1 b2 b3 p W HW.out) ?_
  rintro e w1 ⟨rfl, hL1, hf1⟩
  have e0 := (hf1.block _ hsW (by omega)).trans HGL.out
  have HE1 := Lib.hid e0
  have hs1 : w.heap.size < w1.heap.size := Nat.lt_of_lt_of_le hsW hf1.size
  have g20 : w1.cell? ⟨lt, 20, none⟩ = some (.map (some b3)) := hL1.cell 20
  have hlt1 := hL1.ok.lt
  have HM1 : Hid (MapL kS w1 b3 (fileL p.files 1)) := Lib.hid ((H3.out.keep HWB.out).fr hf1 (fun e => hb3 e.symm))
  have hlk := HLK.out w1 HM1.out
  have HL1 := Lib.hid hL1
  have HF1 : Hid (Fr (fun j => j = lt) w w1) := Lib.hid ((Fr.of_below HWB.out).trans hf1)
  clear e0 hL1 hf1
  go_wp2_with fail
  clear g20 hlk
  go_loopw [10] (fun i wr => ∃ k : Nat, k ≤ p.funcs.length ∧ i = .int .u32 k ∧ Hid (placeG p z line (p.funcs.length - k) k = placeG p z line p.funcs.length 0) ∧ Hid (Below w1.heap.size w1 wr)) (fun i _ => p.funcs.length - (intOf i).toNat)
  case atStart => exact ⟨0, Nat.zero_le _, rfl, Lib.hid rfl, Lib.hid (Below.refl _ _)⟩
  case round =>
    obtain ⟨k, hk, rfl, HP, HB⟩ := hrel
    have HLr := Lib.hid (HL1.out.keep HB.out)
    have hzr := HB.out.size
    have c14 := HLr.out.ok.c14
    have hltr := HLr.out.ok.lt
    have HER : Hid (wr.heap[w.heap.size]? = some (.cells #[.int .u64 0] 22 (0, 0))) := Lib.hid ((HB.out.block _ hs1).trans HE1.out)
    have r0 := cell_of_one HER.out
    have f0 := free_of_one HER.out
    have hsr : w.heap.size < wr.heap.size := Nat.lt_of_lt_of_le hs1 hzr
    by_cases hlt2 : k < p.funcs.length
    · have hfn := HLr.out.well.funcs k hlt2
      have hgd : p.funcs.getD k default = p.funcs[k] := by rw [List.getD_eq_getElem?_getD, List.getElem?_eq_getElem hlt2]; rfl
      obtain ⟨rf, hrf⟩ := List.length_eq_one_iff.1 (hone k hlt2)
      have HAT : Hid (atL p z line k = placeL rf.v z p.quantum.toNat p.funcs[k].lines line (bndN p k)) := Lib.hid (by unfold atL fvN; rw [hgd, hrf]; rfl)
      have HPS : Hid (placeG p z line (p.funcs.length - k) k = if atL p z line k = 0 then placeG p z line (p.funcs.length - (k + 1)) (k + 1) else atL p z line k) := Lib.hid (by
        rw [show p.funcs.length - k = (p.funcs.length - (k + 1)) + 1 by omega]; rfl)
      have hqt := HLr.out.well.head.quantum
      have HSUM : Hid (quN p.funcs[k].lines = rf.q) := Lib.hid (by
        have h1 := quantaTo_all hfn.lines
        have h2 := quantaTo_all hfn.files
        have h3 := hfn.same
        rw [h1, h2, hrf] at h3
        have h4 : quN [rf] = rf.q := by simp [quN]
        omega)
      have HRF : Hid (RunsFrom (-1) [rf]) := Lib.hid (by rw [← hrf]; exact hfn.files.from (by have := HLr.out.well.head.sl; omega))
      have HRL : Hid (RunsFrom (-1) p.funcs[k].lines) := Lib.hid (hfn.lines.from (by omega))
      have hbn := HLr.out.well.bnd_le k (Nat.le_of_lt hlt2)
      have hst := HLr.out.well.head.start0
      have hz32 : IntKind.i32.wrap (z : Int) = (z : Int) := by rw [IntKind.wrap_i32]; omega
      have hl32 : IntKind.i32.wrap line = line := by rw [IntKind.wrap_i32]; omega
      have hp1 := bytes_pcfile p k hlt2
      have hp2 := bytes_pcln p k hlt2
      rw [hrf] at hp1 hp2
      have hn1 : 0 < (strZ p.funcs[k].name).length := by simp [strZ]
      have HCF := Lib.hid (fun W (h : LtOk W lt db c p) => pcfile_any lt db c k p W h hlt2)
      have HCL := Lib.hid (fun W (h : LtOk W lt db c p) => pcln_any lt db c k p W h hlt2)
      rw [hrf] at HCL
      obtain ⟨N1, hN1⟩ : ∃ N1, offN p k + (strZ p.funcs[k].name).length = N1 := ⟨_, rfl⟩
      rw [hN1] at hp1 hp2 HCF HCL
      obtain ⟨N2, hN2⟩ : ∃ N2, N1 + (pairsB [rf]).length = N2 := ⟨_, rfl⟩
      rw [hN2] at hp2 HCL
      have hN1p : 0 < N1 := by omega
      have hN2p : 0 < N2 := by omega
      have HP1 := Lib.hid hp1
      have HP2 := Lib.hid hp2
      clear hfn hgd hrf hn1 hN1 hN2 hp1 hp2 f0 r0
      go_wp2_with fail
      refine Calls.mono (funcData_any lt db c k p wr HLr.out.ok hlt2) ?_
      rintro e w2 ⟨rfl, hb2⟩
      have H2 := Lib.hid (HLr.out.keep hb2)
      have HB2 := Lib.hid (below_next2 HB.out hb2)
      have hs2 : w.heap.size < w2.heap.size := Nat.lt_of_lt_of_le hsr hb2.size
      clear hb2
      go_wp2_with fail
      generalize hV : w2.alloc _ = V
      have hVb : Below w2.heap.size w2 V := by rw [← hV]; exact (Below.refl _ _).alloc (Nat.le_refl _) _
      have vB0 : V.cell? ⟨w2.heap.size, 0, none⟩ = some (.pointer (some ⟨lt, 0, none⟩)) := by rw [← hV]; simp
      have vB1 : V.cell? ⟨w2.heap.size, 1, none⟩ = some (.slice (some ⟨db, headN p + k * recN p, none⟩) ((bytesB p).length - (headN p + k * recN p)) (c - (headN p + k * recN p))) := by rw [← hV]; simp
      have hsV : w2.heap.size < V.heap.size := by rw [← hV]; simp
      have HV := Lib.hid (H2.out.keep hVb)
      have HBV := Lib.hid (below_next2 HB2.out hVb)
      clear hV hVb
      refine Calls.mono (entryPC_any lt db c k w2.heap.size p V HV.out.ok hlt2 vB0 vB1) ?_
      rintro e w3 ⟨rfl, hb3'⟩
      have H3' := Lib.hid (HV.out.keep hb3')
      have HB3 := Lib.hid (below_next2 HBV.out hb3')
      have b30 := (hb3'.cell (p := ⟨w2.heap.size, 0, none⟩) hsV).trans vB0
      have b31 := (hb3'.cell (p := ⟨w2.heap.size, 1, none⟩) hsV).trans vB1
      have hs3 : w2.heap.size < w3.heap.size := Nat.lt_of_lt_of_le hsV hb3'.size
      clear hb3' vB0 vB1
      go_wp2_with fail
      refine Calls.mono (HCF.out w3 H3'.out.ok) ?_
      rintro e w4 ⟨rfl, hb4⟩
      have H4 := Lib.hid (H3'.out.keep hb4)
      have HB4 := Lib.hid (below_next2 HB3.out hb4)
      have b40 := (hb4.cell (p := ⟨w2.heap.size, 0, none⟩) hs3).trans b30
      have b41 := (hb4.cell (p := ⟨w2.heap.size, 1, none⟩) hs3).trans b31
      clear hb4 b30 b31
      go_wp2_with fail
      refine Calls.mono (HCL.out w4 H4.out.ok) ?_
      rintro e w5 ⟨rfl, hb5⟩
      have H5 := Lib.hid (H4.out.keep hb5)
      have HB5 := Lib.hid (below_next2 HB4.out hb5)
      have v5 := H5.out.ok.c5
      have hl5 := H5.out.ok.lt
      clear hb5 b40 b41
      go_wp2_with fail
      refine Calls.mono (findFileLine_any lt db (bytesB p).length c N1 N2 p.quantum.toNat (bndN p k) z line rf p.funcs[k].lines _ w5 v5 H5.out.ok.c16 (by have := H5.out.ok.c7; rwa [show ((p.quantum.toNat : Nat) : Int) = p.quantum by omega]) (H5.out.ok.mem.at HP1.out) (H5.out.ok.mem.at HP2.out) HP1.out.le HP2.out.le H5.out.ok.hc H5.out.ok.cm
        hN1p hN2p HRF.out HRL.out (by omega) (by omega) HSUM.out (by omega) (by have h1 : rf.q * p.quantum.toNat ≤ 65536 * 4 := Nat.mul_le_mul HRF.out.2.2.2.2.1 (by omega); omega)) ?_
      rintro e w6 ⟨rfl, hb6⟩
      rw [← HAT.out]
      have H6 := Lib.hid (H5.out.keep hb6)
      have HB6 := Lib.hid (below_next2 HB5.out hb6)
      have HE6 : Hid (w6.heap[w.heap.size]? = some (.cells #[.int .u64 0] 22 (0, 0))) := Lib.hid ((HB6.out.block _ hs1).trans HE1.out)
      have q0 := cell_of_one HE6.out
      have qf := free_of_one HE6.out
      have hl6 := H6.out.ok.lt
      clear hb6 v5
      generalize atL p z line k = x at *
      by_cases hx : x = 0
      · subst hx
        clear qf q0
        go_wp2_with fail
        exact ⟨⟨k + 1, hlt2, by go_num, Lib.hid (by rw [← HP.out, HPS.out, if_pos trivial]), HB6⟩, by simp [intOf]; omega⟩
      · have hxq : ((x : Int) == 0) = false := by rw [beq_eq_false_iff_ne]; omega
        have hxq2 : ((x : Int) != 0) = true := by rw [bne_iff_ne]; omega
        have HZ : Hid (placeG p z line p.funcs.length 0 = x) := Lib.hid (by rw [← HP.out, HPS.out, if_neg hx])
        go_wp2_with fail
        refine leaves_cons (f := 76) (args := #[.pointer (some ⟨w.heap.size, 0, none⟩)]) (by simp) (by simp [go_sem]) ?_
        refine (catchPlace_idle _ _).mono ?_
        rintro e u' w'' ⟨rfl, rfl, rfl⟩
        simp [Leaves, settle, results, Tryz.results52, go_sem, q0]
        have hlo := HH.out.ok.lt
        have hlo2 := HH.out.ok.db
        have hlo3 := HH.out.m1.lt
        have hlo4 := HH.out.m2.lt
        have fst : Fr (fun j => j = w.heap.size) w6 (w6.setCell ⟨w.heap.size, 0, none⟩ (.int .u64 x)) := (Fr.refl (fun j => j = w.heap.size) w6).set ⟨w.heap.size, 0, none⟩ (fun _ => rfl) _
        exact ⟨by first | exact HZ.out | exact HZ.out.symm | (rw [HZ.out]; rfl) | simp [HZ.out], H6.out.fr fst (by omega) (by omega) (by omega) (by omega), (HF1.out.trans (Fr.of_below HB6.out)).new fst (Nat.le_refl _)⟩
    · obtain rfl : k = p.funcs.length := by omega
      have HZ : Hid (placeG p z line p.funcs.length 0 = 0) := Lib.hid (by rw [← HP.out, Nat.sub_self]; rfl)
      go_wp2_with fail
      refine leaves_cons (f := 76) (args := #[.pointer (some ⟨w.heap.size, 0, none⟩)]) (by simp) (by simp [go_sem]) ?_
      refine (catchPlace_idle _ _).mono ?_
      rintro e u' w'' ⟨rfl, rfl, rfl⟩
      simp [Leaves, settle, results, Tryz.results52, go_sem, r0]
      have hlo := HH.out.ok.lt
      have hlo2 := HH.out.ok.db
      have hlo3 := HH.out.m1.lt
      have hlo4 := HH.out.m2.lt
      have fst : Fr (fun j => j = w.heap.size) wr (wr.setCell ⟨w.heap.size, 0, none⟩ (.int .u64 0)) := (Fr.refl (fun j => j = w.heap.size) wr).set ⟨w.heap.size, 0, none⟩ (fun _ => rfl) _
      exact ⟨by first | exact HZ.out | exact HZ.out.symm | (rw [HZ.out]; rfl) | simp [HZ.out], HLr.out.fr fst (by omega) (by omega) (by omega) (by omega), (HF1.out.trans (Fr.of_below HB.out)).new fst (Nat.le_refl _)⟩
end Go.Proofs.YtoedlabfiialfaaGreat
