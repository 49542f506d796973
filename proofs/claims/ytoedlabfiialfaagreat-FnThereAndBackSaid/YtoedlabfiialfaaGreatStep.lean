/-
  The walk through step.
-/
import Derived.Test.YtoedlabfiialfaaGreatRvi
import Derived.Test.YtoedlabfiialfaaGreatLay
namespace Go.Proofs.YtoedlabfiialfaaGreat
open Go.RowKit

/-- the three variables of a walk through runs -/
structure Tri (w : World) (pp pcp vp b o n c pc : Nat) (val : Int) : Prop where
  p : w.heap[pp]? = some (.cells #[.slice (some ⟨b, o, none⟩) n c] 31 (0, 0))
  pc_ : w.heap[pcp]? = some (.cells #[.int .u64 pc] 22 (0, 0))
  v : w.heap[vp]? = some (.cells #[.int .i32 val] 21 (0, 0))
theorem Tri.ne {w : World} {pp pcp vp b o n c pc : Nat} {val : Int} (h : Tri w pp pcp vp b o n c pc val) : pp ≠ pcp ∧ pp ≠ vp ∧ pcp ≠ vp := by
  refine ⟨fun e => ?_, fun e => ?_, fun e => ?_⟩
  · have h1 := h.p; have h2 := h.pc_; rw [e, h2] at h1; simp at h1
  · have h1 := h.p; have h2 := h.v; rw [e, h2] at h1; simp at h1
  · have h1 := h.pc_; have h2 := h.v; rw [e, h2] at h1; simp at h1
theorem bit0 (z : Nat) (hz : z < 4294967296) : (bits .and .u32 (z : Int) 1 != 0) = decide (z % 2 = 1) := by
  have h := (bits_nat .u32 32 (by decide) wraps_u32 z 1 (by omega) (by omega)).1
  rw [show ((1 : Nat) : Int) = 1 by rfl] at h
  rw [h, Nat.and_one_is_mod]
  rcases Nat.mod_two_eq_zero_or_one z with e | e <;> rw [e] <;> rfl
theorem xor_max (x : Nat) (hx : x < 4294967296) : bits .xor .u32 IntKind.u32.max (x : Int) = 4294967295 - (x : Int) := by
  have hm : IntKind.u32.max = 4294967295 := rfl
  rw [hm]
  show IntKind.u32.wrap (((BitVec.ofInt 32 4294967295 ^^^ BitVec.ofInt 32 (x : Int) : BitVec 32).toNat : Nat) : Int) = _
  have e : BitVec.ofInt 32 4294967295 = BitVec.allOnes 32 := by decide
  rw [e, BitVec.allOnes_xor, BitVec.toNat_not, BitVec.ofInt_natCast, BitVec.toNat_ofNat, Nat.mod_eq_of_lt hx, u32_wrap_id _ (by omega) (by omega)]
  omega
theorem wrap_neg (d : Int) (h : d < 0) (h2 : -65536 ≤ d) : wrap32 (bits .xor .u32 IntKind.u32.max (-1 - d)) = d := by
  have := xor_max (-1 - d).toNat (by omega)
  rw [Int.toNat_of_nonneg (by omega)] at this
  rw [this, wrap32]
  omega
/-- the bytes do not lie in the variable's block -/
theorem mem_ne {w : World} {b o pp : Nat} {l : List UInt8} {v : Value} {t : TypeId} (hm : Mem w b o l) (hl : 0 < l.length) (hp : w.heap[pp]? = some (.cells #[v] t (0, 0))) (hv : ∀ x, v ≠ .int .u8 x) : b ≠ pp := by
  intro e
  subst e
  have h0 := hm 0 hl
  rw [Nat.add_zero, cell_of_row w b o _ t (0, 0) hp] at h0
  rcases Nat.eq_zero_or_pos o with rfl | ho
  · simp at h0
    exact hv _ h0
  · rw [Array.getElem?_eq_none (by simp; omega)] at h0
    cases h0
theorem set_other {w : World} {a : Addr} {v : Value} {k : Nat} (h : k ≠ a.block) : (w.setCell a v).heap[k]? = w.heap[k]? := Below.heap_setCell _ _ _ _ h

theorem Fr.drew {S : Nat → Prop} {a w : World} (h : Fr S a w) : Fr S a w.drew := ⟨h.os, h.tape, h.output, h.size, h.block⟩
theorem tri_done {w : World} {pp pcp vp b o n c pc o' n' c' pc' : Nat} {val val' x : Int} (s1 : Value) (h : Tri w pp pcp vp b o n c pc val) (hx : x = (pc' : Int)) {s2 : Value} (hs2 : s2 = .slice (some ⟨b, o', none⟩) n' c') :
    Tri (((((w.setCell ⟨pp, 0, none⟩ s1).setCell ⟨pp, 0, none⟩ s2).setCell ⟨pcp, 0, none⟩ (.int .u64 x)).setCell ⟨vp, 0, none⟩ (.int .i32 val')).drew) pp pcp vp b o' n' c' pc' val' ∧
    Fr (fun k => k = pp ∨ k = pcp ∨ k = vp) w (((((w.setCell ⟨pp, 0, none⟩ s1).setCell ⟨pp, 0, none⟩ s2).setCell ⟨pcp, 0, none⟩ (.int .u64 x)).setCell ⟨vp, 0, none⟩ (.int .i32 val')).drew) := by
  subst hx hs2
  obtain ⟨n1, n2, n3⟩ := h.ne
  have f1 := (Fr.refl (fun k => k = pp ∨ k = pcp ∨ k = vp) w).set ⟨pp, 0, none⟩ (fun _ => .inl rfl) s1
  have p1 := one_setCell (u := s1) h.p
  have q1 := (set_other (w := w) (a := ⟨pp, 0, none⟩) (v := s1) (Ne.symm n1)).trans h.pc_
  have r1 := (set_other (w := w) (a := ⟨pp, 0, none⟩) (v := s1) (Ne.symm n2)).trans h.v
  generalize w.setCell ⟨pp, 0, none⟩ s1 = w1 at *
  have f2 := f1.set ⟨pp, 0, none⟩ (fun _ => .inl rfl) (.slice (some ⟨b, o', none⟩) n' c')
  have p2 := one_setCell (u := .slice (some ⟨b, o', none⟩) n' c') p1
  have q2 := (set_other (w := w1) (a := ⟨pp, 0, none⟩) (v := .slice (some ⟨b, o', none⟩) n' c') (Ne.symm n1)).trans q1
  have r2 := (set_other (w := w1) (a := ⟨pp, 0, none⟩) (v := .slice (some ⟨b, o', none⟩) n' c') (Ne.symm n2)).trans r1
  generalize w1.setCell ⟨pp, 0, none⟩ (.slice (some ⟨b, o', none⟩) n' c') = w2 at *
  have f3 := f2.set ⟨pcp, 0, none⟩ (fun _ => .inr (.inl rfl)) (.int .u64 pc')
  have p3 := (set_other (w := w2) (a := ⟨pcp, 0, none⟩) (v := .int .u64 pc') n1).trans p2
  have q3 := one_setCell (u := .int .u64 pc') q2
  have r3 := (set_other (w := w2) (a := ⟨pcp, 0, none⟩) (v := .int .u64 pc') (Ne.symm n3)).trans r2
  generalize w2.setCell ⟨pcp, 0, none⟩ (.int .u64 pc') = w3 at *
  have f4 := f3.set ⟨vp, 0, none⟩ (fun _ => .inr (.inr rfl)) (.int .i32 val')
  have p4 := (set_other (w := w3) (a := ⟨vp, 0, none⟩) (v := .int .i32 val') n2).trans p3
  have q4 := (set_other (w := w3) (a := ⟨vp, 0, none⟩) (v := .int .i32 val') n3).trans q3
  have r4 := one_setCell (u := .int .i32 val') r3
  generalize w3.setCell ⟨vp, 0, none⟩ (.int .i32 val') = w4 at *
  exact ⟨⟨p4, q4, r4⟩, f4.drew⟩

set_option maxRecDepth 100000 in
set_option maxHeartbeats 2000000 in
theorem step_end (lt pp pcp vp b o n c pc : Nat) (val : Int) (w : World) (h : Tri w pp pcp vp b o n c pc val) (hm : Mem w b o [0]) (hn : 0 < n) (hnc : n ≤ c) (hcm : c ≤ maxLen) :
    Calls Tryz.prog 98 #[.pointer (some ⟨lt, 0, none⟩), .pointer (some ⟨pp, 0, none⟩), .pointer (some ⟨pcp, 0, none⟩), .pointer (some ⟨vp, 0, none⟩), .bool false] w
      fun e w' => e = .returned (.bool false) ∧ Fr (fun k => k = pp) w w' := by
  have HM := Lib.hid hm
  have HP := Lib.hid h.p
  have hc := cell_of_one h.p
  have hf := free_of_one h.p
  clear h hm
  go_enter Tryz.func98, Tryz.ntmps98
  go_wp2_with fail
  refine (readvarint_zero _ pp b o n c _ hc hf HM.out hn hnc hcm).mono ?_
  rintro e w1 ⟨rfl, v, rfl⟩
  go_wp2_with fail
  go_ret
  exact ⟨rfl, (Fr.refl (fun k => k = pp) w).set ⟨pp, 0, none⟩ (fun _ => rfl) _⟩

set_option maxRecDepth 100000 in
set_option maxHeartbeats 4000000 in
theorem step_more (lt pp pcp vp b o n c pc q qm : Nat) (val d : Int) (rest : List UInt8) (first : Bool) (w : World) (h : Tri w pp pcp vp b o n c pc val) (hq : w.cell? ⟨lt, 7, none⟩ = some (.int .u32 qm)) (hlt : lt ≠ pp)
    (hm : Mem w b o (varB (zz d) ++ (varB q ++ rest))) (hr : 0 < rest.length) (hn : (varB (zz d) ++ (varB q ++ rest)).length ≤ n) (hnc : n ≤ c) (hcm : c ≤ maxLen)
    (hd : -65536 ≤ d ∧ d ≤ 65537) (hq6 : q ≤ 65536) (hqm : qm ≤ 4) (hpc : pc + q * qm < 18446744073709551616) (hval : -2147483648 ≤ val + d ∧ val + d ≤ 2147483647) (hd0 : d ≠ 0) :
    Calls Tryz.prog 98 #[.pointer (some ⟨lt, 0, none⟩), .pointer (some ⟨pp, 0, none⟩), .pointer (some ⟨pcp, 0, none⟩), .pointer (some ⟨vp, 0, none⟩), .bool first] w
      fun e w' => e = .returned (.bool true) ∧ Tri w' pp pcp vp b (o + (varB (zz d) ++ varB q).length) (n - (varB (zz d) ++ varB q).length) (c - (varB (zz d) ++ varB q).length) (pc + q * qm) (val + d) ∧ Fr (fun k => k = pp ∨ k = pcp ∨ k = vp) w w' := by
  obtain ⟨n1, n2, n3⟩ := h.ne
  have hz : zz d < 4294967296 := by unfold zz; split <;> omega
  have m1 := Lib.hid (hm.left)
  have m2 := Lib.hid (hm.right.left)
  have HT := Lib.hid h
  have hc := cell_of_one h.p
  have hf := free_of_one h.p
  have gc := cell_of_one h.pc_
  have gf := free_of_one h.pc_
  have vc := cell_of_one h.v
  have vf := free_of_one h.v
  have hlen : (varB (zz d)).length + (varB q).length + rest.length ≤ n := by simp only [List.length_append] at hn; omega
  have hzpos := varB_pos (zz d)
  obtain ⟨L1, hL1⟩ : ∃ L, (varB (zz d)).length = L := ⟨_, rfl⟩
  obtain ⟨L2, hL2⟩ : ∃ L, (varB q).length = L := ⟨_, rfl⟩
  have HL1 := Lib.hid hL1
  have HL2 := Lib.hid hL2
  rw [hL1, hL2] at hlen
  rw [hL1] at hzpos
  have hbp : b ≠ pp := mem_ne hm (by simp only [List.length_append]; omega) h.p (fun x e => by cases e)
  obtain ⟨P, hP⟩ : ∃ P, q * qm = P := ⟨_, rfl⟩
  have hmul : (q : Int) * (qm : Int) = (P : Int) := by rw [← hP]; push_cast; rfl
  have hP4 : P ≤ 262144 := by rw [← hP]; exact Nat.le_trans (Nat.mul_le_mul hq6 hqm) (by omega)
  have hPw : IntKind.u32.wrap (P : Int) = (P : Int) := u32_wrap_id _ (by omega) (by omega)
  rw [hP] at hpc
  have HPC := Lib.hid hpc
  have HPP := Lib.hid hP
  clear h hm hn hL1 hL2 hpc hP
  have HC1 : Hid ((w.setCell ⟨pp, 0, none⟩ (.slice (some ⟨b, o + L1, none⟩) (n - L1) (c - L1))).drew.cell? ⟨pp, 0, none⟩ = some (.slice (some ⟨b, o + L1, none⟩) (n - L1) (c - L1))) := Lib.hid (cell_of_one (one_setCell HT.out.p))
  have HF1 : Hid ((w.setCell ⟨pp, 0, none⟩ (.slice (some ⟨b, o + L1, none⟩) (n - L1) (c - L1))).drew.frozen? ⟨pp, 0, none⟩ = false) := Lib.hid (free_of_one (one_setCell HT.out.p))
  have HM2 : Hid (Mem (w.setCell ⟨pp, 0, none⟩ (.slice (some ⟨b, o + L1, none⟩) (n - L1) (c - L1))).drew b (o + L1) (varB q)) := by
    have := m2.out
    rw [HL1.out] at this
    exact Lib.hid (Mem.fr (S := fun k => k = pp) this ((Fr.refl (fun k => k = pp) w).set ⟨pp, 0, none⟩ (fun _ => rfl) _).drew hbp)
  have hzz : zz d = if d < 0 then ((-1 - d) * 2 + 1).toNat else (d * 2).toNat := rfl
  generalize zz d = Z at *
  have hb0 := bit0 Z hz
  rcases Int.lt_or_le d 0 with hneg | hneg
  · rw [if_pos hneg] at hzz
    have hz0 : ((Z : Int) == 0) = false := by rw [beq_eq_false_iff_ne]; omega
    have hbt : (bits .and .u32 (Z : Int) 1 != 0) = true := by rw [hb0]; simp; omega
    have hz2 : (Z : Int) / 2 = -1 - d := by omega
    have hwn := wrap_neg d hneg hd.1
    clear hb0 hzz hd0
    go_enter Tryz.func98, Tryz.ntmps98
    go_wp2_with fail
    refine (readvarint_any _ pp b o n c Z _ hz hc hf m1.out (by rw [HL1.out]; omega) hnc hcm).mono ?_
    rintro e w1 ⟨rfl, rfl⟩
    rw [HL1.out]
    go_wp2_with fail
    have hlt' := Ne.symm hlt
    generalize bits BinOp.xor IntKind.u32 IntKind.u32.max (-1 - d) = yy at *
    clear hwn hz2 hbt hz0
    go_region_held3 (fun w' => w'.cell? ⟨lt, 7, none⟩ = some (.int .u32 qm)) (go_keep)
      ((go_at_call 109; refine (readvarint_any _ pp b (o + L1) (n - L1) (c - L1) q _ (by omega) HC1.out HF1.out HM2.out (by rw [HL2.out]; omega) (by omega) (by omega)).mono ?_; rintro e w1 ⟨rfl, rfl⟩; rw [HL2.out]))
    go_wp2_with fail
    go_ret
    have hsum : IntKind.u64.wrap ((pc : Int) + (P : Int)) = ((pc + q * qm : Nat) : Int) := by
      rw [HPP.out, u64_wrap_id _ (by omega) (by have := HPC.out; omega)]
      push_cast
      rfl
    have hd2 := tri_done (.slice (some ⟨b, o + L1, none⟩) (n - L1) (c - L1)) HT.out hsum (slice_eq (b := b) (show o + L1 + L2 = o + (varB Z ++ varB q).length by rw [List.length_append, HL1.out, HL2.out]; omega) (show n - L1 - L2 = n - (varB Z ++ varB q).length by rw [List.length_append, HL1.out, HL2.out]; omega) (show c - L1 - L2 = c - (varB Z ++ varB q).length by rw [List.length_append, HL1.out, HL2.out]; omega)) (val' := val + d)
    exact ⟨rfl, hd2.1, hd2.2⟩
  · rw [if_neg (by omega)] at hzz
    have hz0 : ((Z : Int) == 0) = false := by rw [beq_eq_false_iff_ne]; omega
    have hbt : (bits .and .u32 (Z : Int) 1 != 0) = false := by rw [hb0]; simp; omega
    have hz2 : (Z : Int) / 2 = d := by omega
    clear hb0 hzz hd0
    go_enter Tryz.func98, Tryz.ntmps98
    go_wp2_with fail
    refine (readvarint_any _ pp b o n c Z _ hz hc hf m1.out (by rw [HL1.out]; omega) hnc hcm).mono ?_
    rintro e w1 ⟨rfl, rfl⟩
    rw [HL1.out]
    go_wp2_with fail
    have hlt' := Ne.symm hlt
    go_region_held3 (fun w' => w'.cell? ⟨lt, 7, none⟩ = some (.int .u32 qm)) (go_keep)
      ((go_at_call 109; refine (readvarint_any _ pp b (o + L1) (n - L1) (c - L1) q _ (by omega) HC1.out HF1.out HM2.out (by rw [HL2.out]; omega) (by omega) (by omega)).mono ?_; rintro e w1 ⟨rfl, rfl⟩; rw [HL2.out]))
    go_wp2_with fail
    go_ret
    have hsum : IntKind.u64.wrap ((pc : Int) + (P : Int)) = ((pc + q * qm : Nat) : Int) := by
      rw [HPP.out, u64_wrap_id _ (by omega) (by have := HPC.out; omega)]
      push_cast
      rfl
    have hd2 := tri_done (.slice (some ⟨b, o + L1, none⟩) (n - L1) (c - L1)) HT.out hsum (slice_eq (b := b) (show o + L1 + L2 = o + (varB Z ++ varB q).length by rw [List.length_append, HL1.out, HL2.out]; omega) (show n - L1 - L2 = n - (varB Z ++ varB q).length by rw [List.length_append, HL1.out, HL2.out]; omega) (show c - L1 - L2 = c - (varB Z ++ varB q).length by rw [List.length_append, HL1.out, HL2.out]; omega)) (val' := val + d)
    exact ⟨rfl, hd2.1, hd2.2⟩
end Go.Proofs.YtoedlabfiialfaaGreat
