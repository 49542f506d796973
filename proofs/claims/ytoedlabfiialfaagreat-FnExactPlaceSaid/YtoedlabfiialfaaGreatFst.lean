/-
  The walks through Used and First: whether a file is used, and the first place of a line as the reference tells it.
-/
import Derived.Test.YtoedlabfiialfaaGreatGll
import Derived.Test.YtoedlabfiialfaaGreatSgl
import Derived.Test.YtoedlabfiialfaaGreatFits
namespace Go.Proofs.YtoedlabfiialfaaGreat
open Go.RowKit

set_option maxRecDepth 100000 in
set_option maxHeartbeats 2000000 in
theorem used_any (FA SA : Option Addr) (fc sc : Nat) (p : Pg) (s : ByteArray) (B : Nat) (w : World) (H : PgOk w B FA SA fc sc p) :
    Calls Tryz.prog 18 #[pgv FA SA fc sc p, .string s] w fun e w' => ∃ b : Bool, e = .returned (.bool b) ∧ (b = true ↔ InL p.files s) ∧ Below w.heap.size w w' := by
  have hb0 := below_new w (.cells #[.int .u64 p.start, .slice FA p.funcs.length fc, .slice SA p.files.length sc, .bool p.big, .bool p.wide, .int .i64 p.quantum] 26)
  have HI := Lib.hid (fun W (hb : Below w.heap.size w W) => contains_any SA p.files.length sc p.files s B W rfl H.sl (H.keep (hb.mono H.bd)).st)
  have HB0 := Lib.hid hb0
  clear hb0 H
  go_enter Tryz.func18, Tryz.ntmps18
  go_wp2_with fail
  generalize (w.alloc (.cells #[.int .u64 p.start, .slice FA p.funcs.length fc, .slice SA p.files.length sc, .bool p.big, .bool p.wide, .int .i64 p.quantum] 26)) = W0 at *
  refine Calls.mono (HI.out W0 HB0.out) ?_
  rintro e w1 ⟨b, rfl, hbi, hw1⟩
  have hw1' := hw1.symm
  subst hw1'
  have HBI := Lib.hid hbi
  clear hbi
  go_wp2_with fail
  go_ret
  exact ⟨b, rfl, HBI.out, HB0.out⟩

/-- one step of the place behind a run -/
theorem step_facts (pc q qm : Nat) (hq : q ≤ 65536) (hb : pc + q * qm ≤ 2664431616) : (q : Int) % 18446744073709551616 = (q : Int) ∧ IntKind.u64.wrap ((q : Int) * (qm : Int)) = ((q * qm : Nat) : Int) ∧ (q : Int) * (qm : Int) = ((q * qm : Nat) : Int) ∧
    IntKind.u64.wrap ((pc : Int) + ((q * qm : Nat) : Int)) = ((pc + q * qm : Nat) : Int) := by
  have h : (q : Int) * (qm : Int) = ((q * qm : Nat) : Int) := by push_cast; rfl
  refine ⟨by omega, ?_, h, ?_⟩
  · rw [h, IntKind.wrap_u64]; omega
  · rw [IntKind.wrap_u64]; push_cast; omega
theorem round_next (n m : Nat) (h : m < n) (hn : n ≤ 100) : Value.int .i64 (wrap64 ((m : Int) + 1)) = Value.int .i64 ((m + 1 : Nat) : Int) ∧ n - (intOf (Value.int .i64 (wrap64 ((m : Int) + 1)))).toNat < n - (intOf (Value.int .i64 (m : Int))).toNat := by
  have e : wrap64 ((m : Int) + 1) = ((m + 1 : Nat) : Int) := by unfold wrap64; omega
  rw [e]
  exact ⟨rfl, by simp only [intOf]; omega⟩
/-- what the reference tells of the first place of a line -/
def FstIs (p : Pg) (z line : Int) (e : Ending) : Prop :=
  (placeG p z line p.funcs.length 0 = 0 ∧ e = .returned (.tuple #[.int .u64 0, .int .i64 0, .bool false])) ∨
    ∃ k, k < p.funcs.length ∧ placeG p z line p.funcs.length 0 = atL p z line k ∧ atL p z line k ≠ 0 ∧ e = .returned (.tuple #[.int .u64 ((atL p z line k : Nat) : Int), .int .i64 k, .bool true])
set_option maxRecDepth 100000 in
set_option maxHeartbeats 4000000 in
theorem first_any (FA SA : Option Addr) (fc sc : Nat) (p : Pg) (s : ByteArray) (line : Int) (i : Nat) (B : Nat) (w : World) (H : PgOk w B FA SA fc sc p) (HW : WellP p) (hone : OneFile p) (hi : i < p.files.length) (his : p.files[i] = s) (z : Int) (hz : z = ((1 + i : Nat) : Int)) :
    Calls Tryz.prog 19 #[pgv FA SA fc sc p, .string s, .int .i64 line] w fun e w' => FstIs p z line e ∧ Below w.heap.size w w' := by
  have hb0 := below_new w (.cells #[.int .u64 p.start, .slice FA p.funcs.length fc, .slice SA p.files.length sc, .bool p.big, .bool p.wide, .int .i64 p.quantum] 26)
  have HH := Lib.hid (H.keep (hb0.mono H.bd))
  have HB0 := Lib.hid hb0
  have HBX := Lib.hid (pbox_new w FA SA fc sc p 26)
  have hfl := HW.head.fl
  have HWH := Lib.hid HW
  have HFS := Lib.hid (fun (j : Nat) (hj : j < p.files.length) => (show (p.files[j].toList == s.toList) = decide (j = i) by
    by_cases hji : j = i
    · subst hji; rw [his]; simp
    · rw [decide_eq_false hji]
      refine toList_ne (fun e => ?_)
      rcases Nat.lt_or_gt_of_ne hji with h | h
      · exact (HW.files i hi).2 ⟨j, by simp; omega, by simp [e, his]⟩
      · exact (HW.files j hj).2 ⟨i, by simp; omega, by simp [e, his]⟩))
  have HONE := Lib.hid hone
  have HZI := Lib.hid hz
  have HQW : Hid (IntKind.u64.wrap p.quantum = ((p.quantum.toNat : Nat) : Int)) := Lib.hid (by
    have := HW.head.quantum
    rw [IntKind.wrap_u64]; omega)
  clear hb0 H HW hone his hz
  go_enter Tryz.func19, Tryz.ntmps19
  have e0 := HBX.out.c0
  have e1 := HBX.out.c1
  have e2 := HBX.out.c2
  have e3 := HBX.out.c3
  have e4 := HBX.out.c4
  have e5 := HBX.out.c5
  go_wp2_with fail
  generalize (w.alloc (.cells #[.int .u64 p.start, .slice FA p.funcs.length fc, .slice SA p.files.length sc, .bool p.big, .bool p.wide, .int .i64 p.quantum] 26)) = W0 at *
  have hlX := HBX.out.lt
  clear e0 e1 e2 e3 e4 e5
  go_loopw [18] (fun i' wr => ∃ k : Nat, k ≤ p.funcs.length ∧ i' = .int .i64 k ∧ Hid (placeG p z line (p.funcs.length - k) k = placeG p z line p.funcs.length 0) ∧ Below W0.heap.size W0 wr) (fun i' _ => p.funcs.length - (intOf i').toNat)
  case atStart => exact ⟨0, Nat.zero_le _, rfl, Lib.hid rfl, Below.refl _ _⟩
  case round =>
    obtain ⟨k, hk, rfl, HP, hb⟩ := hrel
    have HB := Lib.hid hb
    have hzr := hb.size
    by_cases hlt : k < p.funcs.length
    · obtain ⟨b, off, rfl, hf⟩ := ((HH.out.fn).keep (hb.mono HH.out.bd)) k hlt
      have c0 := hf.name
      have c1 := hf.frame
      obtain ⟨LA, lc, c2, r2⟩ := hf.lines
      obtain ⟨QA, qc, c3, r3⟩ := hf.files
      have c4 := hf.free
      have hbl : b < wr.heap.size := Nat.lt_of_lt_of_le (Nat.lt_of_lt_of_le hf.lt HH.out.bd) hzr
      have hgd : p.funcs.getD k default = p.funcs[k] := by rw [List.getD_eq_getElem?_getD, List.getElem?_eq_getElem hlt]; rfl
      have hgood := HWH.out.funcs k hlt
      obtain ⟨rf, hrf⟩ := List.length_eq_one_iff.1 (HONE.out k hlt)
      have HAT : Hid (atL p z line k = placeL rf.v z p.quantum.toNat p.funcs[k].lines line (bndN p k)) := Lib.hid (by unfold atL fvN; rw [hgd, hrf]; rfl)
      have HPS : Hid (placeG p z line (p.funcs.length - k) k = if atL p z line k = 0 then placeG p z line (p.funcs.length - (k + 1)) (k + 1) else atL p z line k) := Lib.hid (by
        rw [show p.funcs.length - k = (p.funcs.length - (k + 1)) + 1 by omega]; rfl)
      have HSM : Hid (bndN p k + quN p.funcs[k].lines * p.quantum.toNat ≤ 2664431616) := Lib.hid (by
        have h1 := bndN_succ p k hlt
        have h2 := (HWH.out.bnd_le (k + 1) hlt).2
        have h3 : quN p.funcs[k].lines * p.quantum.toNat ≤ fsz p p.funcs[k] := Nat.mul_le_mul_right _ (Nat.le_add_right _ _)
        omega)
      have hrg : 1 ≤ rf.v ∧ rf.v ≤ p.files.length := by
        have hg := hgood.files
        rw [hrf] at hg
        have := hg.each 0 (by simp)
        exact ⟨this.v1, this.v2⟩
      obtain ⟨qb, qo, rfl, hqB, d0, d1⟩ : ∃ qb qo, QA = some ⟨qb, qo, none⟩ ∧ qb < B ∧ wr.cell? ⟨qb, qo, none⟩ = some (.int .u32 rf.q) ∧ wr.cell? ⟨qb, qo + 1, none⟩ = some (.int .i32 rf.v) := by
        rw [hrf] at r3
        obtain ⟨qb, qo, hq, hqB, h1, h2⟩ := r3.sl 0 (by simp)
        exact ⟨qb, qo, hq, hqB, by simpa using h1, by simpa using h2⟩
      obtain ⟨m0, hm0⟩ : ∃ m0 : Nat, rf.v = ((m0 + 1 : Nat) : Int) := ⟨(rf.v - 1).toNat, by omega⟩
      have hm0l : m0 < p.files.length := by omega
      rw [hm0] at d1 HAT
      have HFM := Lib.hid (HFS.out m0 hm0l)
      obtain ⟨sb, so, rfl, hsB, hsc⟩ := (HH.out.st.keep (hb.mono HH.out.bd)) m0 hm0l
      have hlen : p.funcs[k].files.length = 1 := HONE.out k hlt
      rw [hlen] at c3
      have HR2 := Lib.hid r2
      have HLG := Lib.hid hgood.lines
      have hbX := HBX.out.keep HB.out hlX
      have hlXr := hbX.lt
      have x0 := hbX.c0
      have x1 := hbX.c1
      have x2 := hbX.c2
      have x3 := hbX.c3
      have x4 := hbX.c4
      have x5 := hbX.c5
      have HC : Hid (∀ o, Calls Tryz.prog 34 #[pgv (some ⟨b, off, none⟩) (some ⟨sb, so, none⟩) fc sc p, .int .i64 k] (wr.alloc o) fun e w' => e = .returned (.tuple #[.int .u64 (bndN p k), .int .u64 (bndN p (k + 1))]) ∧ Below (wr.alloc o).heap.size (wr.alloc o) w') := Lib.hid (fun o => by
        have := bounds_any (some ⟨b, off, none⟩) (some ⟨sb, so, none⟩) fc sc p k B (wr.alloc o) (HH.out.keep ((HB.out.alloc hzr o).mono HH.out.bd)) hlt
        rwa [bndW_eq HWH.out k (Nat.le_of_lt hlt), bndW_eq HWH.out (k + 1) hlt] at this)
      clear hbX r2 r3 hf hgd hgood hrf hm0 hrg hb hlen
      generalize p.funcs[k].name = nm at *
      generalize p.funcs[k].frame = fr at *
      generalize p.funcs[k].free = fe at *
      generalize p.funcs[k].lines = ls at *
      go_wp2_with fail
      generalize hX : wr.alloc _ = X
      have hXb : Below wr.heap.size wr X := by rw [← hX]; exact (Below.refl _ _).alloc (Nat.le_refl _) _
      have y2 : X.cell? ⟨wr.heap.size, 2, none⟩ = some (.slice LA ls.length lc) := by rw [← hX]; simp
      have y3 : X.cell? ⟨wr.heap.size, 3, none⟩ = some (.slice (some ⟨qb, qo, none⟩) 1 qc) := by rw [← hX]; simp
      have hxl : wr.heap.size < X.heap.size := by rw [← hX]; simp
      have HCX := HC.out (.cells #[.string nm, .int .i32 fr, .slice LA ls.length lc, .slice (some ⟨qb, qo, none⟩) 1 qc, .int .u32 fe] 39)
      rw [hX] at HCX
      refine Calls.mono HCX ?_
      rintro e w6 ⟨rfl, hb6⟩
      have z2 := (hb6.cell (p := ⟨wr.heap.size, 2, none⟩) hxl).trans y2
      have hw6 : Below wr.heap.size wr w6 := hXb.trans (hb6.mono (Nat.le_of_lt hxl))
      have hBr : B ≤ wr.heap.size := Nat.le_trans HH.out.bd hzr
      have hx6 : wr.heap.size < w6.heap.size := Nat.lt_of_lt_of_le hxl hb6.size
      have HX6 := Lib.hid (HBX.out.keep (HB.out.trans (hw6.mono hzr)) hlX)
      have hz3 := (hb6.cell (p := ⟨wr.heap.size, 3, none⟩) hxl).trans y3
      have hd1 := (hw6.cell (p := ⟨qb, qo + 1, none⟩) (Nat.lt_of_lt_of_le hqB hBr)).trans d1
      have hs1 := (hw6.cell (p := ⟨sb, so + m0, none⟩) (Nat.lt_of_lt_of_le hsB hBr)).trans hsc
      have hq6 : qb < w6.heap.size := Nat.lt_of_lt_of_le (Nat.lt_of_lt_of_le hqB hBr) (Nat.le_of_lt hx6)
      have hs6 : sb < w6.heap.size := Nat.lt_of_lt_of_le (Nat.lt_of_lt_of_le hsB hBr) (Nat.le_of_lt hx6)
      have HG : Hid (∀ wx, Below w6.heap.size w6 wx → PBox wx w.heap.size (some ⟨b, off, none⟩) (some ⟨sb, so, none⟩) fc sc p ∧ wx.cell? ⟨wr.heap.size, 3, none⟩ = some (.slice (some ⟨qb, qo, none⟩) 1 qc) ∧ wx.cell? ⟨qb, qo + 1, none⟩ = some (.int .i32 ((m0 + 1 : Nat) : Int)) ∧ wx.cell? ⟨sb, so + m0, none⟩ = some (.string p.files[m0]) ∧ RunOk wx B LA ls) :=
        Lib.hid (fun wx hbx => ⟨HX6.out.keep hbx HX6.out.lt, (hbx.cell (p := ⟨wr.heap.size, 3, none⟩) hx6).trans hz3, (hbx.cell (p := ⟨qb, qo + 1, none⟩) hq6).trans hd1, (hbx.cell (p := ⟨sb, so + m0, none⟩) hs6).trans hs1, HR2.out.keep ((hw6.mono hBr).trans (hbx.mono (by omega)))⟩)
      have HB6 := Lib.hid (HB.out.trans (hw6.mono hzr))
      clear hX y2 y3 hXb hb6 HCX HC c0 c1 c2 c3 c4 x0 x1 x2 x3 x4 x5 d0 d1 hsc hz3 hd1 hs1 hw6
      go_wp2_with fail
      clear z2
      generalize wr.heap.size = bx at *
      go_loopw [11, 32] (fun a j wx => ∃ m pc : Nat, m ≤ ls.length ∧ j = .int .i64 m ∧ a = .int .u64 pc ∧ Hid (bndN p k ≤ pc) ∧ Hid (pc + quN (ls.drop m) * p.quantum.toNat = bndN p k + quN ls * p.quantum.toNat) ∧ Hid (m0 = i → firstL p.quantum.toNat (ls.drop m) line pc = firstL p.quantum.toNat ls line (bndN p k)) ∧ Hid (Below w6.heap.size w6 wx)) (fun _ j _ => ls.length - (intOf j).toNat)
      case atStart => exact ⟨0, bndN p k, Nat.zero_le _, rfl, rfl, Lib.hid (Nat.le_refl _), Lib.hid (by simp), Lib.hid (fun _ => by simp), Lib.hid (Below.refl _ _)⟩
      case round =>
        obtain ⟨m, pc, hm, rfl, rfl, HPC, HS, HV, HBX6⟩ := hrel
        have hzr6 := HBX6.out.size
        obtain ⟨hpb, g3, gd, gs, hro⟩ := HG.out wr HBX6.out
        by_cases hml : m < ls.length
        · obtain ⟨lb, lo, rfl, hlB, l1, l2⟩ := hro.sl m hml
          have hrg := HLG.out.each m hml
          have hrq1 := hrg.q1
          have hrq2 := hrg.q2
          have hrv1 := hrg.v1
          have hrv2 := hrg.v2
          have hdr : ls.drop m = ls[m] :: ls.drop (m + 1) := List.drop_eq_getElem_cons hml
          have HS2 : Hid (pc + ls[m].q * p.quantum.toNat + quN (ls.drop (m + 1)) * p.quantum.toNat = bndN p k + quN ls * p.quantum.toNat) := Lib.hid (by
            have := HS.out
            rw [hdr] at this
            have h2 : quN (ls[m] :: ls.drop (m + 1)) = ls[m].q + quN (ls.drop (m + 1)) := by unfold quN; rw [List.map_cons, List.sum_cons]
            rw [h2, Nat.add_mul] at this
            omega)
          have HV2 : Hid (m0 = i → (if ls[m].v = line then pc else firstL p.quantum.toNat (ls.drop (m + 1)) line (pc + ls[m].q * p.quantum.toNat)) = firstL p.quantum.toNat ls line (bndN p k)) := Lib.hid (fun h => by
            have := HV.out h
            rw [hdr, firstL] at this
            exact this)
          clear hdr hrg hro hpb g3 gd gs
          generalize ls[m] = r at *
          go_wp2_with fail
          generalize hY : wr.alloc _ = Y
          have hYb : Below wr.heap.size wr Y := by rw [← hY]; exact (Below.refl _ _).alloc (Nat.le_refl _) _
          have v0 : Y.cell? ⟨wr.heap.size, 0, none⟩ = some (.int .u32 r.q) := by rw [← hY]; simp
          have v1 : Y.cell? ⟨wr.heap.size, 1, none⟩ = some (.int .i32 r.v) := by rw [← hY]; simp
          have hyl : wr.heap.size < Y.heap.size := by rw [← hY]; simp
          have HBY := Lib.hid (HBX6.out.trans (hYb.mono hzr6))
          obtain ⟨⟨hpl, e0, e1, e2, e3, e4, e5⟩, g3, gd, gs, _⟩ := HG.out Y HBY.out
          have hql : qb < Y.heap.size := World.block_lt_of_cell? Y _ gd
          have hsl : sb < Y.heap.size := World.block_lt_of_cell? Y _ gs
          have hbl2 : bx < Y.heap.size := World.block_lt_of_cell? Y _ g3
          have hwv : IntKind.i64.wrap r.v = r.v := by rw [IntKind.wrap_i64]; omega
          have hq1 := HFM.out
          have hw32 : wrap32 (m0 : Int) = (m0 : Int) := by have := HWH.out.head.sl; unfold wrap32; omega
          have hw33 : wrap32 (((m0 + 1 : Nat) : Int) - 1) = (m0 : Int) := by rw [show ((m0 + 1 : Nat) : Int) - 1 = (m0 : Int) by omega]; exact hw32
          clear hY hYb
          generalize p.files[m0] = ft at *
          by_cases hmat : m0 = i ∧ r.v = line
          · obtain ⟨him, hv⟩ := hmat
            have hq2 : (r.v == line) = true := by simp [hv]
            rw [decide_eq_true him] at hq1
            subst him
            refine wp_region_det (fun wi => Below Y.heap.size Y wi) (by kernel_rfl) (by kernel_rfl) (Below.refl _ _).drew ?_
            iterate 19 (first
              | (refine wpDet_skip (by rfl) ?_; simp only [Act.put, List.setIfInBounds_toArray, List.set_cons_succ, List.set_cons_zero])
              | (apply wpDet_step
                 · rfl
                 · (intro wi hi2 K hK; have hc := (bcell hi2).1; go_wp2_with fail
                    all_goals first
                    | exact hK _ hi2
                    | exact hi2)
                 · kernel_rfl))
            refine wpDet_nil (fun w2 hi2 => ?_)
            have HW2 : Hid (Below W0.heap.size W0 w2) := Lib.hid ((HB6.out.trans (HBY.out.mono HB6.out.size)).trans (hi2.mono (Nat.le_trans HB6.out.size HBY.out.size)))
            have hmz : ((m0 + 1 : Nat) : Int) = z := by rw [HZI.out, Nat.add_comm]
            have HAV : Hid (atL p z line k = pc) := Lib.hid (by
              rw [HAT.out]
              unfold placeL
              rw [if_pos hmz, ← HV2.out rfl, if_pos hv])
            have hst := HWH.out.head.start0
            have hbn := HWH.out.bnd_le k (Nat.le_of_lt hlt)
            have hpc0 : 0 < pc := Nat.lt_of_lt_of_le (Nat.pos_of_ne_zero hst) (Nat.le_trans hbn.1 HPC.out)
            have hne : atL p z line k ≠ 0 := by rw [HAV.out]; exact Nat.pos_iff_ne_zero.1 hpc0
            have HFI : Hid (FstIs p z line (.returned (.tuple #[.int .u64 pc, .int .i64 k, .bool true]))) := Lib.hid (.inr ⟨k, hlt, by rw [← HP.out, HPS.out, if_neg hne], hne, by rw [HAV.out]⟩)
            clear hi2 hst hbn hpc0 hne hmz
            go_wp2_with fail
            go_ret3
            exact ⟨HFI.out, HB0.out.trans (HW2.out.mono HB0.out.size)⟩
          · have HV3 : Hid (m0 = i → firstL p.quantum.toNat (ls.drop (m + 1)) line (pc + r.q * p.quantum.toNat) = firstL p.quantum.toNat ls line (bndN p k)) := Lib.hid (fun h => by
              have := HV2.out h
              rwa [if_neg (fun e => hmat ⟨h, e⟩)] at this)
            have hst2 : pc + r.q * p.quantum.toNat ≤ 2664431616 := Nat.le_trans (Nat.le_trans (Nat.le_add_right _ _) (Nat.le_of_eq HS2.out)) HSM.out
            obtain ⟨s1, s2, s3, s4⟩ := step_facts pc r.q p.quantum.toNat hrq2 hst2
            have HPC2 : Hid (bndN p k ≤ pc + r.q * p.quantum.toNat) := Lib.hid (Nat.le_trans HPC.out (Nat.le_add_right _ _))
            obtain ⟨d1, hd1⟩ : ∃ d1, decide (m0 = i) = d1 := ⟨_, rfl⟩
            obtain ⟨d2, hq2⟩ : ∃ d2, (r.v == line) = d2 := ⟨_, rfl⟩
            have hdd : (d1 && d2) = false := by
              rw [← hd1, ← hq2]
              by_cases h1 : m0 = i
              · rw [decide_eq_true h1, Bool.true_and]
                exact beq_eq_false_iff_ne.2 (fun e => hmat ⟨h1, e⟩)
              · rw [decide_eq_false h1, Bool.false_and]
            rw [hd1] at hq1
            have HLY : Hid (w.heap.size < Y.heap.size) := Lib.hid hpl
            clear hmat hd1 HV2 hst2
            cases d1 <;> cases d2
            case neg.true.true => cases hdd
            all_goals
              clear hdd
              refine wp_region_det (fun wi => Below Y.heap.size Y wi) (by kernel_rfl) (by kernel_rfl) (Below.refl _ _).drew ?_
              iterate 19 (first
                | (refine wpDet_skip (by rfl) ?_; simp only [Act.put, List.setIfInBounds_toArray, List.set_cons_succ, List.set_cons_zero])
                | (apply wpDet_step
                   · rfl
                   · (intro wi hi2 K hK; have hc := (bcell hi2).1; go_wp2_with fail
                      all_goals first
                      | exact hK _ hi2
                      | exact hi2)
                   · kernel_rfl))
              refine wpDet_nil (fun w2 hi2 => ?_)
              have e5b := (hi2.cell (p := ⟨w.heap.size, 5, none⟩) HLY.out).trans e5
              have v0b := (hi2.cell (p := ⟨wr.heap.size, 0, none⟩) hyl).trans v0
              have HBW : Hid (Below w6.heap.size w6 w2) := Lib.hid (HBY.out.trans (hi2.mono HBY.out.size))
              clear hi2 e0 e1 e2 e3 e4 e5 v0 v1 g3 gd gs
              go_wp2_with fail
              have hrn := round_next ls.length m hml HLG.out.le
              exact ⟨⟨m + 1, pc + r.q * p.quantum.toNat, hml, hrn.1, congrArg (Value.int .u64) (by rw [HQW.out, s2, s4]), HPC2, HS2, HV3, HBW⟩, hrn.2⟩
        · obtain rfl : m = ls.length := by omega
          have HAZ : Hid (atL p z line k = 0) := Lib.hid (by
            rw [HAT.out]
            unfold placeL
            split
            · next h => rw [← HV.out (Nat.add_right_cancel ((Int.ofNat_inj.1 (h.trans HZI.out)).trans (Nat.add_comm 1 i))), List.drop_length]; rfl
            · rfl)
          go_wp2_with fail
          exact ⟨⟨k + 1, hlt, by go_num, Lib.hid (by rw [← HP.out, HPS.out, if_pos HAZ.out]), HB6.out.trans (HBX6.out.mono HB6.out.size)⟩, by simp [intOf]; omega⟩
    · obtain rfl : k = p.funcs.length := by omega
      have HZ : Hid (placeG p z line p.funcs.length 0 = 0) := Lib.hid (by rw [← HP.out, Nat.sub_self]; rfl)
      go_wp2_with fail
      go_ret3
      exact ⟨.inl ⟨HZ.out, rfl⟩, HB0.out.trans (HB.out.mono HB0.out.size)⟩
end Go.Proofs.YtoedlabfiialfaaGreat
