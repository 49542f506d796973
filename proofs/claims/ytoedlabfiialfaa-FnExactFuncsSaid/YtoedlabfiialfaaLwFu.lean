/-
  The walk through the law FnExactFuncs.
-/
import Derived.Test.YtoedlabfiialfaaLwFi
import Derived.Test.YtoedlabfiialfaaAll
import Derived.Test.YtoedlabfiialfaaEqf
namespace Go.Proofs.Ytoedlabfiialfaa
open Go.RowKit

set_option maxRecDepth 100000 in
set_option maxHeartbeats 4000000 in
theorem exactFuncs_any (FA SA : Option Addr) (fc sc : Nat) (p : Pg) (B : Nat) (w : World) (H : PgOk w B FA SA fc sc p) :
    Calls Try.prog 5 #[pgv FA SA fc sc p] w fun e w' => e = .returned (.bool true) ∧ Below w.heap.size w w' := by
  have hb0 := below_new w (.cells #[.int .u64 p.start, .slice FA p.funcs.length fc, .slice SA p.files.length sc, .bool p.big, .bool p.wide, .int .i64 p.quantum] 26)
  have HH := Lib.hid (H.keep (hb0.mono H.bd))
  have HB0 := Lib.hid hb0
  have HBX := Lib.hid (pbox_new w FA SA fc sc p 26)
  clear hb0 H
  go_enter Try.func5, Try.ntmps5
  have e0 := HBX.out.c0
  have e1 := HBX.out.c1
  have e2 := HBX.out.c2
  have e3 := HBX.out.c3
  have e4 := HBX.out.c4
  have e5 := HBX.out.c5
  go_wp2_with fail
  generalize (w.alloc (.cells #[.int .u64 p.start, .slice FA p.funcs.length fc, .slice SA p.files.length sc, .bool p.big, .bool p.wide, .int .i64 p.quantum] 26)) = W0 at *
  have hlX := HBX.out.lt
  refine Calls.mono (zzFits1_any FA SA fc sc p B W0 HH.out) ?_
  rintro e w1 ⟨b, rfl, hb1⟩
  cases b
  · go_wp2_with fail
    go_ret
    exact ⟨rfl, HB0.out.trans (hb1.mono HB0.out.size)⟩
  have HB1 := Lib.hid hb1
  clear hb1 e0 e1 e2 e3 e4 e5
  have hbX := HBX.out.keep HB1.out hlX
  have hlX1 := hbX.lt
  have e0 := hbX.c0
  have e1 := hbX.c1
  have e2 := hbX.c2
  have e3 := hbX.c3
  have e4 := hbX.c4
  have e5 := hbX.c5
  clear hbX
  go_wp2_with fail
  refine Calls.mono (well_any FA SA fc sc p B w1 (HH.out.keep (HB1.out.mono HH.out.bd))) ?_
  rintro e w2 ⟨b, rfl, hbi, hb2⟩
  have HB2 := Lib.hid (below_next HB1.out hb2)
  clear hb2 e0 e1 e2 e3 e4 e5
  cases b
  · go_wp2_with fail
    go_ret
    exact ⟨rfl, HB0.out.trans (HB2.out.mono HB0.out.size)⟩
  have HW := Lib.hid (hbi.1 rfl)
  clear hbi
  have hll := HW.out.len_le
  have hbX := HBX.out.keep HB2.out hlX
  have hlX2 := hbX.lt
  have e0 := hbX.c0
  have e1 := hbX.c1
  have e2 := hbX.c2
  have e3 := hbX.c3
  have e4 := hbX.c4
  have e5 := hbX.c5
  clear hbX
  go_wp2_with fail
  refine Calls.mono (bytes_any FA SA fc sc p B w2 (HH.out.keep (HB2.out.mono HH.out.bd)) HW.out) ?_
  rintro e w3 ⟨g, cap, rfl, hO, hb3⟩
  have HB3 := Lib.hid (below_next HB2.out hb3)
  have hcap := hO.cap (by omega)
  have HM := Lib.hid hO.mem
  clear hO hb3 e0 e1 e2 e3 e4 e5
  go_wp2_with fail
  refine Calls.mono (implFuncs_any g _ cap p w3 HW.out HM.out rfl hcap.1) ?_
  rintro e w4 ⟨v, rfl, hF, hb4⟩
  have HB4 := Lib.hid (below_next HB3.out hb4)
  clear hb4 HM
  have hpos := HW.out.head.pos
  have hfl := HW.out.head.fl
  obtain ⟨g4, cap4, rfl, hgl, hg4, hT4⟩ := hF.told hpos
  have HT4 := Lib.hid hT4
  clear hF hT4
  have hbX := HBX.out.keep HB4.out hlX
  have hlX4 := hbX.lt
  have e0 := hbX.c0
  have e1 := hbX.c1
  have e2 := hbX.c2
  have e3 := hbX.c3
  have e4 := hbX.c4
  have e5 := hbX.c5
  clear hbX
  go_wp2_with fail
  refine Calls.mono (all_any FA SA fc sc p B w4 (HH.out.keep (HB4.out.mono HH.out.bd)) HW.out) ?_
  rintro e w5 ⟨v, rfl, hF, hb5⟩
  have HB5 := Lib.hid (below_next HB4.out hb5)
  obtain ⟨g5, cap5, rfl, hgl5, hg5, hT5⟩ := hF.told hpos
  have HT5 := Lib.hid hT5
  have hg4' := Nat.lt_of_lt_of_le hg4 hb5.size
  have HT4' := Lib.hid (HT4.out.keep hg4 hb5)
  clear hb5 hF hT5 HT4 e0 e1 e2 e3 e4 e5
  go_wp2_with fail
  refine Calls.mono (equal_any g4 cap4 g5 cap5 p.funcs.length p w5 HT4'.out HT5.out hg4' hg5 (by omega)) ?_
  rintro e w6 ⟨rfl, hb6⟩
  have HB6 := Lib.hid (below_next HB5.out hb6)
  clear hb6
  go_wp2_with fail
  go_ret
  exact ⟨rfl, HB0.out.trans (HB6.out.mono HB0.out.size)⟩
end Go.Proofs.Ytoedlabfiialfaa
