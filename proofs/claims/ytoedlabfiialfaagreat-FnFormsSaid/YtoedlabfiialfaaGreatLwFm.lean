/-
  The walk through the law FnForms.
-/
import Derived.Test.YtoedlabfiialfaaGreatLwLn
import Derived.Test.YtoedlabfiialfaaGreatEqf
namespace Go.Proofs.YtoedlabfiialfaaGreat
open Go.RowKit

/-- the program in the other order of bytes, with the other size of places -/
def flipP (p : Pg) : Pg := { p with big := !p.big, wide := !p.wide }
theorem frmN_flip (p : Pg) (fs : List Fn) : ∀ (a k : Nat), frmN (flipP p) fs a k = frmN p fs a k := by
  induction fs with
  | nil => intro a k; cases k <;> rfl
  | cons f fs ih =>
    intro a k
    cases k with
    | zero => rfl
    | succ k => exact ih _ _
theorem bndN_flip (p : Pg) (k : Nat) : bndN (flipP p) k = bndN p k := frmN_flip p p.funcs p.start k
theorem WellP.flip {p : Pg} (h : WellP p) : WellP (flipP p) := ⟨⟨h.head.quantum, h.head.start0, h.head.start1, h.head.startq, h.head.pos, h.head.fl, h.head.sl⟩, h.files, h.funcs⟩
theorem PgOk.flip {w : World} {B : Nat} {FA SA : Option Addr} {fc sc : Nat} {p : Pg} (h : PgOk w B FA SA fc sc p) : PgOk w B FA SA fc sc (flipP p) :=
  ⟨h.bd, h.fl, h.sl, h.ssz, h.start, h.quantum, h.fn, h.st, h.fcap, h.fcm, h.scap, h.scm⟩
theorem fL_flip (p : Pg) (k : Nat) : fL (flipP p) k = fL p k := by
  induction k with
  | zero => rfl
  | succ k ih =>
    rw [fL, fL, ih]
    unfold fC
    rw [bndN_flip, bndN_flip]
    rfl
theorem LnIs.flip {p : Pg} {pc : Nat} {e : Ending} (h : LnIs (flipP p) pc e) : LnIs p pc e := by
  unfold LnIs at h ⊢
  simp only [bndN_flip] at h
  exact h
theorem LnIs.eq {p : Pg} (H : WellP p) {pc : Nat} {e e' : Ending} (h : LnIs p pc e) (h' : LnIs p pc e') : e' = e := by
  rcases h with ⟨ho, rfl⟩ | ⟨k, hk, k1, k2, rfl⟩
  · rcases h' with ⟨_, rfl⟩ | ⟨j, hj, j1, j2, rfl⟩
    · rfl
    · have := find_out H ho (e := .returned (.int .i64 j)) (.inr ⟨j, hj, j1, j2, rfl⟩)
      simp at this
  · rcases h' with ⟨ho, rfl⟩ | ⟨j, hj, j1, j2, rfl⟩
    · have := find_out H ho (e := .returned (.int .i64 k)) (.inr ⟨k, hk, k1, k2, rfl⟩)
      simp at this
    · obtain rfl := bnd_unique H hk hj k1 k2 j1 j2
      rfl
theorem LnIs.form {p : Pg} {pc : Nat} {e : Ending} (h : LnIs p pc e) : ∃ s z nm ok, e = .returned (.tuple #[.string s, .int .i64 z, .string nm, .bool ok]) := by
  rcases h with ⟨_, rfl⟩ | ⟨k, hk, _, _, rfl⟩ <;> exact ⟨_, _, _, _, rfl⟩

set_option maxRecDepth 100000 in
set_option maxHeartbeats 4000000 in
theorem forms_any (FA SA : Option Addr) (fc sc : Nat) (p : Pg) (pl : Nat) (B : Nat) (w : World) (H : PgOk w B FA SA fc sc p) (hpl : pl < 18446744073709551616) :
    Calls Tryz.prog 4 #[pgv FA SA fc sc p, .int .u64 pl] w fun e w' => e = .returned (.bool true) ∧ Below w.heap.size w w' := by
  have hb0 := below_new w (.cells #[.int .u64 p.start, .slice FA p.funcs.length fc, .slice SA p.files.length sc, .bool p.big, .bool p.wide, .int .i64 p.quantum] 26)
  have HH := Lib.hid (H.keep (hb0.mono H.bd))
  have HB0 := Lib.hid hb0
  have HBX := Lib.hid (pbox_new w FA SA fc sc p 26)
  clear hb0 H
  go_enter Tryz.func4, Tryz.ntmps4
  have e0 := HBX.out.c0
  have e1 := HBX.out.c1
  have e2 := HBX.out.c2
  have e3 := HBX.out.c3
  have e4 := HBX.out.c4
  have e5 := HBX.out.c5
  go_wp2_with fail
  generalize (w.alloc (.cells #[.int .u64 p.start, .slice FA p.funcs.length fc, .slice SA p.files.length sc, .bool p.big, .bool p.wide, .int .i64 p.quantum] 26)) = W0 at *
  have hlX := HBX.out.lt
  refine Calls.mono (zzFits1_any FA SA fc sc p B W0 HH.out) ?_
  rintro e w1 ⟨b, rfl, hb1⟩
  cases b
  · go_wp2_with fail
    go_ret
    exact ⟨rfl, HB0.out.trans (hb1.mono HB0.out.size)⟩
  have HB1 := Lib.hid hb1
  clear hb1 e0 e1 e2 e3 e4 e5
  have hbX := HBX.out.keep HB1.out hlX
  have hlX1 := hbX.lt
  have e0 := hbX.c0
  have e1 := hbX.c1
  have e2 := hbX.c2
  have e3 := hbX.c3
  have e4 := hbX.c4
  have e5 := hbX.c5
  clear hbX
  go_wp2_with fail
  refine Calls.mono (well_any FA SA fc sc p B w1 (HH.out.keep (HB1.out.mono HH.out.bd))) ?_
  rintro e w2 ⟨b, rfl, hbi, hb2⟩
  have HB2 := Lib.hid (below_next HB1.out hb2)
  clear hb2 e0 e1 e2 e3 e4 e5
  cases b
  · go_wp2_with fail
    go_ret
    exact ⟨rfl, HB0.out.trans (HB2.out.mono HB0.out.size)⟩
  have HW := Lib.hid (hbi.1 rfl)
  clear hbi
  have hll := HW.out.len_le
  have hbX := HBX.out.keep HB2.out hlX
  have hlX2 := hbX.lt
  have e0 := hbX.c0
  have e1 := hbX.c1
  have e2 := hbX.c2
  have e3 := hbX.c3
  have e4 := hbX.c4
  have e5 := hbX.c5
  clear hbX
  go_upto_region 6 with fail
  have hs2 : w.heap.size < w2.heap.size := hlX2
  go_cut [5] from 25 to 32 (fun s wx => s = .pointer (some ⟨w2.heap.size, 0, none⟩) ∧ PBox wx w2.heap.size FA SA fc sc (flipP p) ∧ Below w2.heap.size w2 wx)
  case first =>
    go_region
    all_goals
      go_wp2_with fail
      go_meet
    all_goals exact ⟨rfl, (pbox_new w2 FA SA fc sc (flipP p) 26).keep (Below.refl (w2.heap.size + 1) _).drew (Nat.lt_succ_self _), ((Below.refl _ _).alloc (Nat.le_refl _) _).drew⟩
  case rest =>
    obtain ⟨rfl, hbY, hbc⟩ := hcut
    have HBC := Lib.hid (below_next HB2.out hbc)
    have HBY := Lib.hid hbY
    have hpos := HW.out.head.pos
    have hfl := HW.out.head.fl
    have hll' := (WellP.flip HW.out).len_le
    have hlY := hbY.lt
    clear hbY hbc e0 e1 e2 e3 e4 e5
    obtain ⟨hlXc, e0, e1, e2, e3, e4, e5⟩ := HBX.out.keep HBC.out hlX
    -- the first line
    go_wp2_with fail
    refine Calls.mono (bytes_any FA SA fc sc p B wc (HH.out.keep (HBC.out.mono HH.out.bd)) HW.out) ?_
    rintro e w3 ⟨g3, cap3, rfl, hO, hb3⟩
    have HB3 := Lib.hid (below_next HBC.out hb3)
    have hcap := hO.cap (by omega)
    have HM := Lib.hid hO.mem
    have HBY3 := Lib.hid (HBY.out.keep hb3 hlY)
    have hlY3 := HBY3.out.lt
    clear hO hb3 e0 e1 e2 e3 e4 e5
    go_wp2_with fail
    refine Calls.mono (implLine_any g3 _ cap3 pl p w3 HW.out HM.out rfl hcap.1 hpl) ?_
    rintro e w4 ⟨hL, hb4⟩
    obtain ⟨s, z, nm, ok, rfl⟩ := hL.form
    have HL := Lib.hid hL
    have HB4 := Lib.hid (below_next HB3.out hb4)
    have HBY4 := Lib.hid (HBY3.out.keep hb4 hlY3)
    have hlY4 := HBY4.out.lt
    clear hL hb4 HM hcap
    obtain ⟨_, e0, e1, e2, e3, e4, e5⟩ := HBY4.out
    -- the second line
    go_wp2_with fail
    refine Calls.mono (bytes_any FA SA fc sc (flipP p) B w4 (HH.out.keep (HB4.out.mono HH.out.bd)).flip HW.out.flip) ?_
    rintro e w5 ⟨g5, cap5, rfl, hO, hb5⟩
    have HB5 := Lib.hid (below_next HB4.out hb5)
    have hcap := hO.cap (by omega)
    have HM := Lib.hid hO.mem
    have HBY5 := Lib.hid (HBY4.out.keep hb5 hlY4)
    have hlY5 := HBY5.out.lt
    clear hO hb5 e0 e1 e2 e3 e4 e5
    go_wp2_with fail
    refine Calls.mono (implLine_any g5 _ cap5 pl (flipP p) w5 HW.out.flip HM.out rfl hcap.1 hpl) ?_
    rintro e w6 ⟨hL, hb6⟩
    obtain rfl := LnIs.eq HW.out HL.out hL.flip
    have HB6 := Lib.hid (below_next HB5.out hb6)
    have HBY6 := Lib.hid (HBY5.out.keep hb6 hlY5)
    have hlY6 := HBY6.out.lt
    clear hL hb6 HM hcap HL
    obtain ⟨_, e0, e1, e2, e3, e4, e5⟩ := HBX.out.keep HB6.out hlX
    -- the first functions
    go_wp2_with fail
    refine Calls.mono (bytes_any FA SA fc sc p B w6 (HH.out.keep (HB6.out.mono HH.out.bd)) HW.out) ?_
    rintro e w7 ⟨g7, cap7, rfl, hO, hb7⟩
    have HB7 := Lib.hid (below_next HB6.out hb7)
    have hcap := hO.cap (by omega)
    have HM := Lib.hid hO.mem
    have HBY7 := Lib.hid (HBY6.out.keep hb7 hlY6)
    have hlY7 := HBY7.out.lt
    clear hO hb7 e0 e1 e2 e3 e4 e5
    go_wp2_with fail
    refine Calls.mono (implFuncs_any g7 _ cap7 p w7 HW.out HM.out rfl hcap.1) ?_
    rintro e w8 ⟨v, rfl, hF, hb8⟩
    obtain ⟨ga, capa, rfl, _, hga, hTa⟩ := hF.told hpos
    have HTA := Lib.hid hTa
    have HB8 := Lib.hid (below_next HB7.out hb8)
    have HBY8 := Lib.hid (HBY7.out.keep hb8 hlY7)
    have hlY8 := HBY8.out.lt
    clear hF hTa hb8 HM hcap
    obtain ⟨_, e0, e1, e2, e3, e4, e5⟩ := HBY8.out
    -- the second functions
    go_wp2_with fail
    refine Calls.mono (bytes_any FA SA fc sc (flipP p) B w8 (HH.out.keep (HB8.out.mono HH.out.bd)).flip HW.out.flip) ?_
    rintro e w9 ⟨g9, cap9, rfl, hO, hb9⟩
    have HB9 := Lib.hid (below_next HB8.out hb9)
    have hcap := hO.cap (by omega)
    have HM := Lib.hid hO.mem
    have HTA9 := Lib.hid (HTA.out.keep hga hb9)
    have hga9 := Nat.lt_of_lt_of_le hga hb9.size
    clear hO hb9 e0 e1 e2 e3 e4 e5
    go_wp2_with fail
    refine Calls.mono (implFuncs_any g9 _ cap9 (flipP p) w9 HW.out.flip HM.out rfl hcap.1) ?_
    rintro e w10 ⟨v, rfl, hF, hb10⟩
    have hF' : OwnF w10 w9.heap.size v p.funcs.length (fL p p.funcs.length) := by rw [← fL_flip p]; exact hF
    obtain ⟨gb, capb, rfl, _, hgb, hTb⟩ := hF'.told hpos
    have HTB := Lib.hid hTb
    have HTA10 := Lib.hid (HTA9.out.keep hga9 hb10)
    have hga10 := Nat.lt_of_lt_of_le hga9 hb10.size
    have HB10 := Lib.hid (below_next HB9.out hb10)
    have hs : (s.toList == s.toList) = true := by simp
    have hnm : (nm.toList == nm.toList) = true := by simp
    clear hF hF' hTb hb10 HM hcap
    have hok : (ok == ok) = true := by simp
    go_wp2_with fail
    refine Calls.mono (equal_any ga capa gb capb p.funcs.length p w10 HTA10.out HTB.out hga10 hgb (by omega)) ?_
    rintro e w11 ⟨rfl, hb11⟩
    have HB11 := Lib.hid (below_next HB10.out hb11)
    clear hb11
    go_wp2_with fail
    go_ret
    exact ⟨rfl, HB0.out.trans (HB11.out.mono HB0.out.size)⟩
end Go.Proofs.YtoedlabfiialfaaGreat
