/-
  The walk through the law FnThereAndBack.
-/
import Derived.Test.YtoedlabfiialfaaGreatPlt
import Derived.Test.YtoedlabfiialfaaGreatFnw
import Derived.Test.YtoedlabfiialfaaGreatByt1
import Derived.Test.YtoedlabfiialfaaGreatWell
import Derived.Test.YtoedlabfiialfaaGreatFits
namespace Go.Proofs.YtoedlabfiialfaaGreat
open Go.RowKit

set_option maxRecDepth 100000 in
set_option maxHeartbeats 4000000 in
theorem thereAndBack_any (FA SA : Option Addr) (fc sc : Nat) (p : Pg) (pl : Nat) (B : Nat) (w : World) (H : PgOk w B FA SA fc sc p) (hpl : pl < 18446744073709551616) :
    Calls Tryz.prog 7 #[pgv FA SA fc sc p, .int .u64 pl] w fun e w' => e = .returned (.bool true) ∧ Below w.heap.size w w' := by
  have hb0 := below_new w (.cells #[.int .u64 p.start, .slice FA p.funcs.length fc, .slice SA p.files.length sc, .bool p.big, .bool p.wide, .int .i64 p.quantum] 26)
  have HH := Lib.hid (H.keep (hb0.mono H.bd))
  have HB0 := Lib.hid hb0
  have HBX := Lib.hid (pbox_new w FA SA fc sc p 26)
  clear hb0 H
  go_enter Tryz.func7, Tryz.ntmps7
  have e0 := HBX.out.c0
  have e1 := HBX.out.c1
  have e2 := HBX.out.c2
  have e3 := HBX.out.c3
  have e4 := HBX.out.c4
  have e5 := HBX.out.c5
  go_wp2_with fail
  generalize (w.alloc (.cells #[.int .u64 p.start, .slice FA p.funcs.length fc, .slice SA p.files.length sc, .bool p.big, .bool p.wide, .int .i64 p.quantum] 26)) = W0 at *
  have hlX := HBX.out.lt
  refine Calls.mono (zzFits1_any FA SA fc sc p B W0 HH.out) ?_
  rintro e w1 ⟨b, rfl, hb1⟩
  cases b
  · go_wp2_with fail
    go_ret
    exact ⟨rfl, HB0.out.trans (hb1.mono HB0.out.size)⟩
  have HB1 := Lib.hid hb1
  clear hb1 e0 e1 e2 e3 e4 e5
  have hbX := HBX.out.keep HB1.out hlX
  have hlX1 := hbX.lt
  have e0 := hbX.c0
  have e1 := hbX.c1
  have e2 := hbX.c2
  have e3 := hbX.c3
  have e4 := hbX.c4
  have e5 := hbX.c5
  clear hbX
  go_wp2_with fail
  refine Calls.mono (findW_any FA SA fc sc p pl B w1 (HH.out.keep (HB1.out.mono HH.out.bd))) ?_
  rintro e w2 ⟨hb2, hcase⟩
  have HB2 := Lib.hid (below_next HB1.out hb2)
  clear hb2 e0 e1 e2 e3 e4 e5
  have hbX := HBX.out.keep HB2.out hlX
  have hlX2 := hbX.lt
  have e0 := hbX.c0
  have e1 := hbX.c1
  have e2 := hbX.c2
  have e3 := hbX.c3
  have e4 := hbX.c4
  have e5 := hbX.c5
  clear hbX
  obtain ⟨z, rfl, hz⟩ : ∃ z : Int, e = .returned (.int .i64 z) ∧ (z = -1 ∨ ∃ k : Nat, k < p.funcs.length ∧ bndW p k ≤ pl ∧ pl < bndW p (k + 1) ∧ z = k) := by
    rcases hcase with rfl | ⟨k, k1, k2, k3, rfl⟩
    · exact ⟨_, rfl, .inl rfl⟩
    · exact ⟨_, rfl, .inr ⟨k, k1, k2, k3, rfl⟩⟩
  have HZ := Lib.hid hz
  clear hcase hz
  go_wp2_with fail
  refine Calls.mono (well_any FA SA fc sc p B w2 (HH.out.keep (HB2.out.mono HH.out.bd))) ?_
  rintro e w3 ⟨b, rfl, hbi, hb3⟩
  have HB3 := Lib.hid (below_next HB2.out hb3)
  clear hb3 e0 e1 e2 e3 e4 e5
  cases b
  · go_wp2_with fail
    go_ret
    exact ⟨rfl, HB0.out.trans (HB3.out.mono HB0.out.size)⟩
  have HW := Lib.hid (hbi.1 rfl)
  clear hbi
  have hll := HW.out.len_le
  have hbX := HBX.out.keep HB3.out hlX
  have hlX3 := hbX.lt
  have e0 := hbX.c0
  have e1 := hbX.c1
  have e2 := hbX.c2
  have e3 := hbX.c3
  have e4 := hbX.c4
  have e5 := hbX.c5
  clear hbX
  go_wp2_with fail
  refine Calls.mono (single_any FA SA fc sc p B w3 (HH.out.keep (HB3.out.mono HH.out.bd)) HW.out.head.fl) ?_
  rintro e w4 ⟨b, rfl, hbi, hb4⟩
  have HB4 := Lib.hid (below_next HB3.out hb4)
  clear hb4 e0 e1 e2 e3 e4 e5
  cases b
  · go_wp2_with fail
    go_ret
    exact ⟨rfl, HB0.out.trans (HB4.out.mono HB0.out.size)⟩
  have HONE := Lib.hid (hbi.1 rfl)
  clear hbi
  rcases HZ.out with rfl | ⟨k, hk, k1, k2, rfl⟩
  · go_wp2_with fail
    go_ret
    exact ⟨rfl, HB0.out.trans (HB4.out.mono HB0.out.size)⟩
  rw [bndW_eq HW.out k (Nat.le_of_lt hk)] at k1
  rw [bndW_eq HW.out (k + 1) hk] at k2
  have k1' : bndN p k ≤ pl := by omega
  have k2' : pl < bndN p (k + 1) := by omega
  have HK := Lib.hid (And.intro k1' k2')
  clear k1 k2 k1' k2' HZ
  have hfl := HW.out.head.fl
  have hd0 : decide ((k : Int) < 0) = false := by simp
  have hbX := HBX.out.keep HB4.out hlX
  have hlX4 := hbX.lt
  have e0 := hbX.c0
  have e1 := hbX.c1
  have e2 := hbX.c2
  have e3 := hbX.c3
  have e4 := hbX.c4
  have e5 := hbX.c5
  clear hbX
  go_wp2_with fail
  refine Calls.mono (bytes_any FA SA fc sc p B w4 (HH.out.keep (HB4.out.mono HH.out.bd)) HW.out) ?_
  rintro e w5 ⟨g, cap, rfl, hO, hb5⟩
  have HB5 := Lib.hid (below_next HB4.out hb5)
  have hcap := hO.cap (by omega)
  have HM := Lib.hid hO.mem
  have hgl := hO.lt
  clear hO hb5 e0 e1 e2 e3 e4 e5
  go_wp2_with fail
  refine Calls.mono (implLine_any g _ cap pl p w5 HW.out HM.out rfl hcap.1 hpl) ?_
  rintro e w6 ⟨hat, hb6⟩
  obtain rfl := hat.at HW.out hk HK.out.1 HK.out.2
  have HB6 := Lib.hid (below_next HB5.out hb6)
  have HM6 := Lib.hid (HM.out.keep hgl hb6)
  have hgl6 : g < w6.heap.size := Nat.lt_of_lt_of_le hgl hb6.size
  clear hb6 HM hat
  rcases Nat.lt_or_ge (pl - bndN p k) (quN p.funcs[k].lines * p.quantum.toNat) with hn | hn
  rotate_left 1
  · obtain ⟨f1, f2⟩ := fileN_out HW.out HONE.out k hk _ hn
    rw [f1, f2]
    have hq3 : (default : ByteArray) = ⟨#[]⟩ := rfl
    rw [hq3]
    generalize p.funcs[k].name = nm at *
    go_wp2_with fail
    go_ret
    exact ⟨by simp, HB0.out.trans (HB6.out.mono HB0.out.size)⟩
  · obtain ⟨s, L, a, nm2, nm3, hs, hL, hsz, hl1, hl2, hle, hP, hB⟩ := there_and_back HW.out HONE.out hk HK.out.1 hn
    rw [hs, hL]
    have HP := Lib.hid hP
    have HBK := Lib.hid hB
    have HLN : Hid (-2147483648 ≤ L ∧ L ≤ 2147483647) := Lib.hid ⟨hl1, hl2⟩
    have hq : (s.toList == (⟨#[]⟩ : ByteArray).toList) = false := toList_ne (fun e => hsz (by rw [e]; rfl))
    have hqe : s.toList.isEmpty = false := by simpa using hq
    have hq2 : (s.toList == s.toList) = true := by simp
    have hd : decide ((a : Int) ≤ (pl : Int)) = true := by simp; omega
    have hdn : decide (a ≤ pl) = true := by simp; omega
    have hal : a < 18446744073709551616 := Nat.lt_of_le_of_lt hle hpl
    clear hs hL hsz hl1 hl2 hP hB hn
    generalize p.funcs[k].name = nm at *
    go_wp2_with fail
    refine Calls.mono (implPlace_any g _ cap s L p w6 HW.out HM6.out rfl hcap.1 HONE.out HLN.out) ?_
    rintro e w7 ⟨hat, hb7⟩
    obtain rfl := HP.out e hat
    have HB7 := Lib.hid (below_next HB6.out hb7)
    have HM7 := Lib.hid (HM6.out.keep hgl6 hb7)
    clear hb7 hat
    go_wp2_with fail
    refine Calls.mono (implLine_any g _ cap a p w7 HW.out HM7.out rfl hcap.1 hal) ?_
    rintro e w8 ⟨hat, hb8⟩
    obtain rfl := HBK.out e hat
    have HB8 := Lib.hid (below_next HB7.out hb8)
    clear hb8 hat
    go_wp2_with fail
    go_ret
    exact ⟨by simp, HB0.out.trans (HB8.out.mono HB0.out.size)⟩
end Go.Proofs.YtoedlabfiialfaaGreat
