/-
  The walk through the reference's Line: the file and the line of a place of a function.
-/
import Derived.Test.YtoedlabfiialfaaSp
namespace Go.Proofs.Ytoedlabfiialfaa
open Go.RowKit

/-- the file of the place that lies n bytes behind where function i begins -/
def fileN (p : Pg) (i n : Nat) : ByteArray :=
  if 0 < valN p.quantum.toNat (p.funcs.getD i default).files n then p.files.getD (valN p.quantum.toNat (p.funcs.getD i default).files n - 1).toNat default else default

set_option maxRecDepth 100000 in
set_option maxHeartbeats 2000000 in
theorem spLine_any (FA SA : Option Addr) (fc sc : Nat) (p : Pg) (i pl : Nat) (B : Nat) (w : World) (H : PgOk w B FA SA fc sc p) (HW : WellP p) (hi : i < p.funcs.length) (h1 : bndN p i ≤ pl) (h2 : pl < 18446744073709551616) :
    Calls Try.prog 12 #[pgv FA SA fc sc p, .int .i64 i, .int .u64 pl] w fun e w' => e = .returned (.tuple #[.string (fileN p i (pl - bndN p i)), .int .i64 (valN p.quantum.toNat p.funcs[i].lines (pl - bndN p i))]) ∧ Below w.heap.size w w' := by
  have hb0 := below_new w (.cells #[.int .u64 p.start, .slice FA p.funcs.length fc, .slice SA p.files.length sc, .bool p.big, .bool p.wide, .int .i64 p.quantum] 26)
  have HH := H.keep (hb0.mono H.bd)
  have hbx := pbox_new w FA SA fc sc p 26
  have hfl := HW.head.fl
  have hsl := HW.head.sl
  have HWH := Lib.hid HW
  have e0 := hbx.c0
  have e1 := hbx.c1
  have e2 := hbx.c2
  have e3 := hbx.c3
  have e4 := hbx.c4
  have e5 := hbx.c5
  have hlt0 := hbx.lt
  have hbd := H.bd
  have HB0 := Lib.hid hb0
  have HF : Hid (∀ n, fileN p i n = if 0 < valN p.quantum.toNat p.funcs[i].files n then p.files.getD (valN p.quantum.toNat p.funcs[i].files n - 1).toNat default else default) := Lib.hid (fun n => by
    unfold fileN
    rw [List.getD_eq_getElem?_getD, List.getElem?_eq_getElem hi]
    rfl)
  clear HW hb0
  obtain ⟨x, hx⟩ : ∃ x, bndN p i = x := ⟨_, rfl⟩
  have HX := Lib.hid hx
  rw [hx] at h1 ⊢
  obtain ⟨n, hn⟩ : ∃ n, pl - x = n := ⟨_, rfl⟩
  rw [hn]
  have hsub : (pl : Int) - (x : Int) = (n : Int) := by omega
  have hn64 : n < 18446744073709551616 := by omega
  have hv1 := (HWH.out.funcs i hi).files.val p.quantum.toNat n
  have hw1 := (HWH.out.funcs i hi).lines.val p.quantum.toNat n
  obtain ⟨v, hv⟩ : ∃ v, valN p.quantum.toNat p.funcs[i].files n = v := ⟨_, rfl⟩
  obtain ⟨z, hz⟩ : ∃ z, valN p.quantum.toNat p.funcs[i].lines n = z := ⟨_, rfl⟩
  have HFN := HF.out n
  rw [hv] at hv1 HFN
  rw [hz] at hw1 ⊢
  obtain ⟨FX, hFX⟩ : ∃ FX, fileN p i n = FX := ⟨_, rfl⟩
  rw [hFX] at HFN ⊢
  have HFX := Lib.hid HFN
  have HV := Lib.hid hv
  have HZ := Lib.hid hz
  clear hx hn HFN hv hz HF hFX
  go_enter Try.func12, Try.ntmps12
  go_wp2_with fail
  generalize (w.alloc (.cells #[.int .u64 p.start, .slice FA p.funcs.length fc, .slice SA p.files.length sc, .bool p.big, .bool p.wide, .int .i64 p.quantum] 26)) = W0 at *
  have HC := bounds_any FA SA fc sc p i B W0 HH hi
  rw [bndW_eq HWH.out i (Nat.le_of_lt hi), bndW_eq HWH.out (i + 1) hi, HX.out] at HC
  refine Calls.mono HC ?_
  clear HC
  rintro e w1 ⟨rfl, hb1⟩
  have HB1 := Lib.hid hb1
  have hlt1 : w.heap.size < w1.heap.size := Nat.lt_of_lt_of_le hlt0 hb1.size
  have HH1 := Lib.hid (HH.keep (hb1.mono HH.bd))
  have hbx1 := hbx.keep hb1 hlt0
  have g0 := hbx1.c0
  have g1 := hbx1.c1
  have g2 := hbx1.c2
  have g3 := hbx1.c3
  have g4 := hbx1.c4
  have g5 := hbx1.c5
  obtain ⟨b, off, rfl, hfa⟩ := HH1.out.fn i hi
  obtain ⟨LA, lc, k2, r2⟩ := hfa.lines
  obtain ⟨QA, qc, k3, r3⟩ := hfa.files
  have hbB := hfa.lt
  have hBw : B ≤ w1.heap.size := HH1.out.bd
  have hbw : b < w1.heap.size := Nat.lt_of_lt_of_le hbB hBw
  have HR2 := Lib.hid r2
  have HR3 := Lib.hid r3
  have HGF := Lib.hid (HWH.out.funcs i hi)
  generalize p.funcs[i] = f at *
  clear hb1 hbx1 hbx e0 e1 e2 e3 e4 e5 r2 r3 hfa HH H
  have VC3 : Hid (∀ wi, Below w1.heap.size w1 wi → Calls Try.prog 31 #[pgv (some ⟨b, off, none⟩) SA fc sc p, .slice QA f.files.length qc, .int .u64 n] wi fun e w' => e = .returned (.int .i32 v) ∧ Below wi.heap.size wi w') :=
    Lib.hid (fun wi hi2 => by
      have := value_any (some ⟨b, off, none⟩) SA fc sc p QA qc n f.files p.files.length B wi (HR3.out.keep (hi2.mono hBw)) (Nat.le_trans hBw hi2.size) HGF.out.files HWH.out.head.quantum hn64
      rwa [HV.out] at this)
  have VC2 : Hid (∀ wi, Below w1.heap.size w1 wi → Calls Try.prog 31 #[pgv (some ⟨b, off, none⟩) SA fc sc p, .slice LA f.lines.length lc, .int .u64 n] wi fun e w' => e = .returned (.int .i32 z) ∧ Below wi.heap.size wi w') :=
    Lib.hid (fun wi hi2 => by
      have := value_any (some ⟨b, off, none⟩) SA fc sc p LA lc n f.lines 65536 B wi (HR2.out.keep (hi2.mono hBw)) (Nat.le_trans hBw hi2.size) HGF.out.lines HWH.out.head.quantum hn64
      rwa [HZ.out] at this)
  go_wp2_with fail
  refine wp_region_det (fun wi => Below w1.heap.size w1 wi) (by kernel_rfl) (by kernel_rfl) (Below.refl _ _).drew ?_
  iterate 12 (first
    | (refine wpDet_skip (by rfl) ?_; simp only [Act.put, List.setIfInBounds_toArray, List.set_cons_succ, List.set_cons_zero])
    | (apply wpDet_step
       · rfl
       · (intro wi hi2 K hK; have hc := (bcell hi2).1; go_wp2_with fail
          all_goals first
          | exact hK _ hi2
          | exact hi2
          | (go_at_call 31; (with_reducible refine Calls.mono (VC3.out _ hi2) ?_); rintro e w5 ⟨rfl, hb5⟩; go_wp2_with fail; all_goals first | exact hK _ (below_next hi2 hb5) | exact below_next hi2 hb5))
       · kernel_rfl))
  refine wpDet_nil (fun w2 hi2 => ?_)
  have HB2 := Lib.hid hi2
  have hc := (bcell hi2).1
  have hz2 := hi2.size
  clear hi2
  rcases hv1 with rfl | ⟨hv0, hvf⟩
  · have hfs : FX = default := by rw [HFX.out, if_neg (by omega)]
    go_wp2_with fail
    refine wp_region_det (fun wi => Below w1.heap.size w1 wi) (by kernel_rfl) (by kernel_rfl) (HB2.out.drew) ?_
    iterate 15 (first
      | (refine wpDet_skip (by rfl) ?_; simp only [Act.put, List.setIfInBounds_toArray, List.set_cons_succ, List.set_cons_zero])
      | (apply wpDet_step
         · rfl
         · (intro wi hi2 K hK; have hc := (bcell hi2).1; go_wp2_with fail
            all_goals first
            | exact hK _ hi2
            | exact hi2
            | (go_at_call 31; (with_reducible refine Calls.mono (VC2.out _ hi2) ?_); rintro e w5 ⟨rfl, hb5⟩; go_wp2_with fail; all_goals first | exact hK _ (below_next hi2 hb5) | exact below_next hi2 hb5))
         · kernel_rfl))
    refine wpDet_nil (fun w3 hi3 => ?_)
    have HB3 := Lib.hid hi3
    clear hi3
    go_wp2_with fail
    go_ret2
    exact ⟨by rw [hfs]; rfl, HB0.out.trans ((below_next HB1.out HB3.out).mono HB0.out.size)⟩
  · obtain ⟨k, rfl⟩ : ∃ k : Nat, v = ((k + 1 : Nat) : Int) := ⟨(v - 1).toNat, by omega⟩
    have hkf : k < p.files.length := by omega
    have hss : (p.files.getD (((k + 1 : Nat) : Int) - 1).toNat default) = p.files[k] := by
      rw [show (((k + 1 : Nat) : Int) - 1).toNat = k by omega, List.getD_eq_getElem?_getD, List.getElem?_eq_getElem hkf]
      rfl
    have hfs : FX = p.files[k] := by rw [HFX.out, if_pos (by omega), hss]
    obtain ⟨sb, so, rfl, hsB, hsc⟩ := (HH1.out.st.keep (HB2.out.mono hBw)) k hkf
    have hd : decide ((0 : Int) < ((k + 1 : Nat) : Int)) = true := decide_eq_true (by omega)
    have hd2 : decide ((0 : Int) < (k : Int) + 1) = true := decide_eq_true (by omega)
    clear hss
    generalize p.files[k] = fs at *
    go_wp2_with fail
    refine wp_region_det (fun wi => Below w1.heap.size w1 wi) (by kernel_rfl) (by kernel_rfl) (HB2.out.drew) ?_
    iterate 15 (first
      | (refine wpDet_skip (by rfl) ?_; simp only [Act.put, List.setIfInBounds_toArray, List.set_cons_succ, List.set_cons_zero])
      | (apply wpDet_step
         · rfl
         · (intro wi hi2 K hK; have hc := (bcell hi2).1; go_wp2_with fail
            all_goals first
            | exact hK _ hi2
            | exact hi2
            | (go_at_call 31; (with_reducible refine Calls.mono (VC2.out _ hi2) ?_); rintro e w5 ⟨rfl, hb5⟩; go_wp2_with fail; all_goals first | exact hK _ (below_next hi2 hb5) | exact below_next hi2 hb5))
         · kernel_rfl))
    refine wpDet_nil (fun w3 hi3 => ?_)
    have HB3 := Lib.hid hi3
    clear hi3
    go_wp2_with fail
    go_ret2
    exact ⟨by rw [hfs]; rfl, HB0.out.trans ((below_next HB1.out HB3.out).mono HB0.out.size)⟩
end Go.Proofs.Ytoedlabfiialfaa
