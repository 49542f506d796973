/-
  The walk through the law FnExactPlace.
-/
import Derived.Test.YtoedlabfiialfaaGreatPlt
import Derived.Test.YtoedlabfiialfaaGreatFst
import Derived.Test.YtoedlabfiialfaaGreatByt1
import Derived.Test.YtoedlabfiialfaaGreatWell
namespace Go.Proofs.YtoedlabfiialfaaGreat
open Go.RowKit

theorem FstIs.zero {p : Pg} {z line : Int} {e : Ending} (h : FstIs p z line e) (h0 : placeG p z line p.funcs.length 0 = 0) : e = .returned (.tuple #[.int .u64 0, .int .i64 0, .bool false]) := by
  rcases h with ⟨_, h⟩ | ⟨k, hk, hg, hk0, _⟩
  · exact h
  · exact absurd (hg.symm.trans h0) hk0
theorem FstIs.at {p : Pg} {z line : Int} {e : Ending} (H : WellP p) (h : FstIs p z line e) {k : Nat} (hk : k < p.funcs.length) (hg : placeG p z line p.funcs.length 0 = atL p z line k) (h0 : atL p z line k ≠ 0) :
    e = .returned (.tuple #[.int .u64 ((atL p z line k : Nat) : Int), .int .i64 k, .bool true]) := by
  rcases h with ⟨h, _⟩ | ⟨j, hj, hgj, hj0, rfl⟩
  · exact absurd (hg.symm.trans h) h0
  · have he := hgj.symm.trans hg
    obtain ⟨_, a1, a2, _, _⟩ := atL_bnd H z line j hj hj0
    obtain ⟨_, b1, b2, _, _⟩ := atL_bnd H z line k hk h0
    rw [he] at a1 a2
    obtain rfl := bnd_unique H hj hk a1 a2 b1 b2
    rfl

set_option maxRecDepth 100000 in
set_option maxHeartbeats 4000000 in
theorem exactPlace_any (FA SA : Option Addr) (fc sc : Nat) (p : Pg) (s : ByteArray) (line : Int) (B : Nat) (w : World) (H : PgOk w B FA SA fc sc p) (hln : -9223372036854775808 ≤ line ∧ line ≤ 9223372036854775807) :
    Calls Tryz.prog 5 #[pgv FA SA fc sc p, .string s, .int .i64 line] w fun e w' => e = .returned (.bool true) ∧ Below w.heap.size w w' := by
  have hb0 := below_new w (.cells #[.int .u64 p.start, .slice FA p.funcs.length fc, .slice SA p.files.length sc, .bool p.big, .bool p.wide, .int .i64 p.quantum] 26)
  have HH := Lib.hid (H.keep (hb0.mono H.bd))
  have HB0 := Lib.hid hb0
  have HBX := Lib.hid (pbox_new w FA SA fc sc p 26)
  clear hb0 H
  go_enter Tryz.func5, Tryz.ntmps5
  have e0 := HBX.out.c0
  have e1 := HBX.out.c1
  have e2 := HBX.out.c2
  have e3 := HBX.out.c3
  have e4 := HBX.out.c4
  have e5 := HBX.out.c5
  go_wp2_with fail
  generalize (w.alloc (.cells #[.int .u64 p.start, .slice FA p.funcs.length fc, .slice SA p.files.length sc, .bool p.big, .bool p.wide, .int .i64 p.quantum] 26)) = W0 at *
  have hlX := HBX.out.lt
  refine Calls.mono (zzFits1_any FA SA fc sc p B W0 HH.out) ?_
  rintro e w1 ⟨b, rfl, hb1⟩
  cases b
  · go_wp2_with fail
    go_ret
    exact ⟨rfl, HB0.out.trans (hb1.mono HB0.out.size)⟩
  have HB1 := Lib.hid hb1
  clear hb1 e0 e1 e2 e3 e4 e5
  have hbX := HBX.out.keep HB1.out hlX
  have hlX1 := hbX.lt
  have e0 := hbX.c0
  have e1 := hbX.c1
  have e2 := hbX.c2
  have e3 := hbX.c3
  have e4 := hbX.c4
  have e5 := hbX.c5
  clear hbX
  rcases Nat.lt_or_ge 2147483647 s.size with hz | hz
  · have hd : decide ((2147483647 : Int) < (s.size : Int)) = true := by simp; omega
    have hdn : decide (2147483647 < s.size) = true := by simp; omega
    go_wp2_with fail
    go_ret
    exact ⟨rfl, HB0.out.trans (HB1.out.mono HB0.out.size)⟩
  have hd : decide ((2147483647 : Int) < (s.size : Int)) = false := by simp; omega
  have hdn : decide (2147483647 < s.size) = false := by simp; omega
  go_wp2_with fail
  refine Calls.mono (well_any FA SA fc sc p B w1 (HH.out.keep (HB1.out.mono HH.out.bd))) ?_
  rintro e w2 ⟨b, rfl, hbi, hb2⟩
  have HB2 := Lib.hid (below_next HB1.out hb2)
  clear hb2 e0 e1 e2 e3 e4 e5
  cases b
  · go_wp2_with fail
    go_ret
    exact ⟨rfl, HB0.out.trans (HB2.out.mono HB0.out.size)⟩
  have HW := Lib.hid (hbi.1 rfl)
  clear hbi
  have hll := HW.out.len_le
  have hbX := HBX.out.keep HB2.out hlX
  have hlX2 := hbX.lt
  have e0 := hbX.c0
  have e1 := hbX.c1
  have e2 := hbX.c2
  have e3 := hbX.c3
  have e4 := hbX.c4
  have e5 := hbX.c5
  clear hbX
  go_wp2_with fail
  refine Calls.mono (single_any FA SA fc sc p B w2 (HH.out.keep (HB2.out.mono HH.out.bd)) HW.out.head.fl) ?_
  rintro e w3 ⟨b, rfl, hbi, hb3⟩
  have HB3 := Lib.hid (below_next HB2.out hb3)
  clear hb3 e0 e1 e2 e3 e4 e5
  cases b
  · go_wp2_with fail
    go_ret
    exact ⟨rfl, HB0.out.trans (HB3.out.mono HB0.out.size)⟩
  have HONE := Lib.hid (hbi.1 rfl)
  clear hbi
  have hbX := HBX.out.keep HB3.out hlX
  have hlX3 := hbX.lt
  have e0 := hbX.c0
  have e1 := hbX.c1
  have e2 := hbX.c2
  have e3 := hbX.c3
  have e4 := hbX.c4
  have e5 := hbX.c5
  clear hbX
  rcases Int.lt_or_le line (-2147483648) with h1 | h1
  · have hd : decide (line < (-2147483648 : Int)) = true := by simp; omega
    go_wp2_with fail
    go_ret
    exact ⟨rfl, HB0.out.trans (HB3.out.mono HB0.out.size)⟩
  have hd1 : decide (line < (-2147483648 : Int)) = false := by simp; omega
  rcases Int.lt_or_le line 2147483648 with h2 | h2
  rotate_left 1
  · have hd : decide ((2147483648 : Int) ≤ line) = true := by simp; omega
    go_wp2_with fail
    go_ret
    exact ⟨rfl, HB0.out.trans (HB3.out.mono HB0.out.size)⟩
  have hd2 : decide ((2147483648 : Int) ≤ line) = false := by simp; omega
  have HLN : Hid (-2147483648 ≤ line ∧ line ≤ 2147483647) := Lib.hid ⟨h1, by omega⟩
  clear h1 h2
  go_wp2_with fail
  refine Calls.mono (bytes_any FA SA fc sc p B w3 (HH.out.keep (HB3.out.mono HH.out.bd)) HW.out) ?_
  rintro e w4 ⟨g, cap, rfl, hO, hb4⟩
  have HB4 := Lib.hid (below_next HB3.out hb4)
  have hcap := hO.cap (by omega)
  have HM := Lib.hid hO.mem
  clear hO hb4 e0 e1 e2 e3 e4 e5 hd1 hd2
  go_wp2_with fail
  refine Calls.mono (implPlace_any g _ cap s line p w4 HW.out HM.out rfl hcap.1 HONE.out HLN.out) ?_
  rintro e w5 ⟨hpl, hb5⟩
  have HB5 := Lib.hid (below_next HB4.out hb5)
  clear hb5 HM
  have hbX := HBX.out.keep HB5.out hlX
  have hlX5 := hbX.lt
  have e0 := hbX.c0
  have e1 := hbX.c1
  have e2 := hbX.c2
  have e3 := hbX.c3
  have e4 := hbX.c4
  have e5 := hbX.c5
  clear hbX
  by_cases hin : InL p.files s
  rotate_left 1
  · obtain rfl := hpl.noFile hin
    have HIN := Lib.hid hin
    clear hin hpl
    go_wp2_with fail
    refine Calls.mono (used_any FA SA fc sc p s B w5 (HH.out.keep (HB5.out.mono HH.out.bd))) ?_
    rintro e w6 ⟨b, rfl, hbi, hb6⟩
    have HB6 := Lib.hid (below_next HB5.out hb6)
    clear hb6 e0 e1 e2 e3 e4 e5
    cases b
    · go_wp2_with fail
      go_ret
      exact ⟨rfl, HB0.out.trans (HB6.out.mono HB0.out.size)⟩
    · exact absurd (hbi.1 rfl) HIN.out
  obtain ⟨i, hi, his, _⟩ := file_no hin
  by_cases h0 : placeG p ((1 + i : Nat) : Int) line p.funcs.length 0 = 0
  · obtain rfl := hpl.noLine HW.out hi his h0
    have HIN := Lib.hid hin
    have H0 := Lib.hid h0
    have HIS : Hid (∃ hi : i < p.files.length, p.files[i] = s) := Lib.hid ⟨hi, his⟩
    clear hin hpl h0 hi his
    go_wp2_with fail
    refine Calls.mono (used_any FA SA fc sc p s B w5 (HH.out.keep (HB5.out.mono HH.out.bd))) ?_
    rintro e w6 ⟨b, rfl, hbi, hb6⟩
    have HB6 := Lib.hid (below_next HB5.out hb6)
    clear hb6 e0 e1 e2 e3 e4 e5
    cases b
    · exact absurd (hbi.2 HIN.out) (by decide)
    clear hbi
    have hbX := HBX.out.keep HB6.out hlX
    have hlX6 := hbX.lt
    have e0 := hbX.c0
    have e1 := hbX.c1
    have e2 := hbX.c2
    have e3 := hbX.c3
    have e4 := hbX.c4
    have e5 := hbX.c5
    clear hbX
    go_wp2_with fail
    refine Calls.mono (first_any FA SA fc sc p s line i B w6 (HH.out.keep (HB6.out.mono HH.out.bd)) HW.out HONE.out HIS.out.1 HIS.out.2 _ rfl) ?_
    rintro e w7 ⟨hfi, hb7⟩
    have HB7 := Lib.hid (below_next HB6.out hb7)
    obtain rfl := hfi.zero H0.out
    clear hb7 hfi e0 e1 e2 e3 e4 e5
    go_wp2_with fail
    go_ret
    exact ⟨rfl, HB0.out.trans (HB7.out.mono HB0.out.size)⟩
  · obtain ⟨k, _, hk, hg, hk0, _⟩ := placeG_some p.funcs.length 0 h0
    have hk' : k < p.funcs.length := by omega
    obtain rfl := hpl.at HW.out hi his hk' hg hk0
    have HIN := Lib.hid hin
    have HF := Lib.hid (fun e (h : FstIs p ((1 + i : Nat) : Int) line e) => h.at HW.out hk' hg hk0)
    have HIS : Hid (∃ hi : i < p.files.length, p.files[i] = s) := Lib.hid ⟨hi, his⟩
    clear hin hpl h0 hi his hg hk0 hk
    have hfl := HW.out.head.fl
    have HNM : Hid (∃ nm, p.funcs[k].name = nm) := Lib.hid ⟨_, rfl⟩
    obtain ⟨nm, hnm⟩ := HNM.out
    obtain ⟨x, hx⟩ : ∃ x, atL p ((1 + i : Nat) : Int) line k = x := ⟨_, rfl⟩
    have hnz := (HW.out.funcs k hk').name.le
    rw [hnm] at hnz
    rw [hx] at HF
    rw [hx, hnm]
    have hq : (nm.toList == nm.toList) = true := by simp
    have HNM2 := Lib.hid hnm
    clear hnm hx HNM
    go_wp2_with fail
    refine Calls.mono (used_any FA SA fc sc p s B w5 (HH.out.keep (HB5.out.mono HH.out.bd))) ?_
    rintro e w6 ⟨b, rfl, hbi, hb6⟩
    have HB6 := Lib.hid (below_next HB5.out hb6)
    clear hb6 e0 e1 e2 e3 e4 e5
    cases b
    · exact absurd (hbi.2 HIN.out) (by decide)
    clear hbi
    have hbX := HBX.out.keep HB6.out hlX
    have hlX6 := hbX.lt
    have e0 := hbX.c0
    have e1 := hbX.c1
    have e2 := hbX.c2
    have e3 := hbX.c3
    have e4 := hbX.c4
    have e5 := hbX.c5
    clear hbX
    go_wp2_with fail
    refine Calls.mono (first_any FA SA fc sc p s line i B w6 (HH.out.keep (HB6.out.mono HH.out.bd)) HW.out HONE.out HIS.out.1 HIS.out.2 _ rfl) ?_
    rintro e w7 ⟨hfi, hb7⟩
    have HB7 := Lib.hid (below_next HB6.out hb7)
    obtain rfl := HF.out e hfi
    clear hb7 hfi e0 e1 e2 e3 e4 e5
    obtain ⟨b, off, rfl, hf⟩ := ((HH.out.fn).keep (HB7.out.mono HH.out.bd)) k hk'
    have c0 := hf.name
    rw [HNM2.out] at c0
    clear hf
    have hbX := HBX.out.keep HB7.out hlX
    have hlX7 := hbX.lt
    have e0 := hbX.c0
    have e1 := hbX.c1
    have e2 := hbX.c2
    have e3 := hbX.c3
    have e4 := hbX.c4
    have e5 := hbX.c5
    clear hbX
    go_wp2_with fail
    go_ret
    exact ⟨by simp, HB0.out.trans (HB7.out.mono HB0.out.size)⟩
end Go.Proofs.YtoedlabfiialfaaGreat
