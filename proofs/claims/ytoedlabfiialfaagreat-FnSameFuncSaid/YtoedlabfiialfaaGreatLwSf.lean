/-
  The walk through the law FnSameFunc.
-/
import Derived.Test.YtoedlabfiialfaaGreatLwLn
import Derived.Test.YtoedlabfiialfaaGreatIfu
namespace Go.Proofs.YtoedlabfiialfaaGreat
open Go.RowKit

theorem OwnF.slice {w : World} {base : Nat} {v : Value} {n : Nat} {xs : List Value} (h : OwnF w base v n xs) (hn : 0 < n) : ∃ g cap, v = .slice (some ⟨g, 0, none⟩) n cap ∧ base ≤ g := by
  rcases h.2 with ⟨_, h0⟩ | ⟨g, c, cur, hv, hg, _⟩
  · omega
  · exact ⟨g, c, hv, hg⟩

set_option maxRecDepth 100000 in
set_option maxHeartbeats 4000000 in
theorem sameFunc_any (FA SA : Option Addr) (fc sc : Nat) (p : Pg) (pl : Nat) (B : Nat) (w : World) (H : PgOk w B FA SA fc sc p) (hpl : pl < 18446744073709551616) :
    Calls Tryz.prog 6 #[pgv FA SA fc sc p, .int .u64 pl] w fun e w' => e = .returned (.bool true) ∧ Below w.heap.size w w' := by
  have hb0 := below_new w (.cells #[.int .u64 p.start, .slice FA p.funcs.length fc, .slice SA p.files.length sc, .bool p.big, .bool p.wide, .int .i64 p.quantum] 26)
  have HH := Lib.hid (H.keep (hb0.mono H.bd))
  have HB0 := Lib.hid hb0
  have HBX := Lib.hid (pbox_new w FA SA fc sc p 26)
  clear hb0 H
  go_enter Tryz.func6, Tryz.ntmps6
  have e0 := HBX.out.c0
  have e1 := HBX.out.c1
  have e2 := HBX.out.c2
  have e3 := HBX.out.c3
  have e4 := HBX.out.c4
  have e5 := HBX.out.c5
  go_wp2_with fail
  generalize (w.alloc (.cells #[.int .u64 p.start, .slice FA p.funcs.length fc, .slice SA p.files.length sc, .bool p.big, .bool p.wide, .int .i64 p.quantum] 26)) = W0 at *
  have hlX := HBX.out.lt
  refine Calls.mono (zzFits1_any FA SA fc sc p B W0 HH.out) ?_
  rintro e w1 ⟨b, rfl, hb1⟩
  cases b
  · go_wp2_with fail
    go_ret
    exact ⟨rfl, HB0.out.trans (hb1.mono HB0.out.size)⟩
  have HB1 := Lib.hid hb1
  clear hb1 e0 e1 e2 e3 e4 e5
  have hbX := HBX.out.keep HB1.out hlX
  have hlX1 := hbX.lt
  have e0 := hbX.c0
  have e1 := hbX.c1
  have e2 := hbX.c2
  have e3 := hbX.c3
  have e4 := hbX.c4
  have e5 := hbX.c5
  clear hbX
  go_wp2_with fail
  refine Calls.mono (well_any FA SA fc sc p B w1 (HH.out.keep (HB1.out.mono HH.out.bd))) ?_
  rintro e w2 ⟨b, rfl, hbi, hb2⟩
  have HB2 := Lib.hid (below_next HB1.out hb2)
  clear hb2 e0 e1 e2 e3 e4 e5
  cases b
  · go_wp2_with fail
    go_ret
    exact ⟨rfl, HB0.out.trans (HB2.out.mono HB0.out.size)⟩
  have HW := Lib.hid (hbi.1 rfl)
  clear hbi
  have hll := HW.out.len_le
  have hbX := HBX.out.keep HB2.out hlX
  have hlX2 := hbX.lt
  have e0 := hbX.c0
  have e1 := hbX.c1
  have e2 := hbX.c2
  have e3 := hbX.c3
  have e4 := hbX.c4
  have e5 := hbX.c5
  clear hbX
  go_wp2_with fail
  refine Calls.mono (bytes_any FA SA fc sc p B w2 (HH.out.keep (HB2.out.mono HH.out.bd)) HW.out) ?_
  rintro e w3 ⟨g, cap, rfl, hO, hb3⟩
  have HB3 := Lib.hid (below_next HB2.out hb3)
  have hcap := hO.cap (by omega)
  have HM := Lib.hid hO.mem
  have hgl := hO.lt
  clear hO hb3 e0 e1 e2 e3 e4 e5
  go_wp2_with fail
  refine Calls.mono (implLine_any g _ cap pl p w3 HW.out HM.out rfl hcap.1 hpl) ?_
  rintro e w4 ⟨hat, hb4⟩
  have HB4 := Lib.hid (below_next HB3.out hb4)
  have HM4 := Lib.hid (HM.out.keep hgl hb4)
  have hgl4 : g < w4.heap.size := Nat.lt_of_lt_of_le hgl hb4.size
  clear hb4 HM
  have hpos := HW.out.head.pos
  have hfl := HW.out.head.fl
  have HA := Lib.hid (implAt_any g _ cap pl p w4 HW.out HM4.out rfl hcap.1)
  rcases hat with ⟨hout, rfl⟩ | ⟨k, hk, hk1, hk2, rfl⟩
  · have HO := Lib.hid hout
    clear hout
    have hq : ((⟨#[]⟩ : ByteArray).toList == (⟨#[]⟩ : ByteArray).toList) = true := by simp
    go_wp2_with fail
    refine Calls.mono HA.out ?_
    rintro e w5 ⟨hat, hb5⟩
    obtain rfl := hat.out HW.out HO.out
    have HB5 := Lib.hid (below_next HB4.out hb5)
    have HM5 := Lib.hid (HM4.out.keep hgl4 hb5)
    clear hb5 hat HM4 HA
    go_wp2_with fail
    refine Calls.mono (implFuncs_any g _ cap p w5 HW.out HM5.out rfl hcap.1) ?_
    rintro e w6 ⟨v, rfl, hF, hb6⟩
    obtain ⟨g6, cap6, rfl, _⟩ := hF.slice hpos
    have HB6 := Lib.hid (below_next HB5.out hb6)
    have hd : decide ((0 : Int) < (p.funcs.length : Int)) = true := by simp; omega
    have hdn : decide (0 < p.funcs.length) = true := by simp; omega
    clear hb6 hF
    go_wp2_with fail
    go_ret
    exact ⟨rfl, HB0.out.trans (HB6.out.mono HB0.out.size)⟩
  · have HK := Lib.hid (And.intro hk1 hk2)
    have HNM : Hid (∃ nm, p.funcs[k].name = nm) := Lib.hid ⟨_, rfl⟩
    have HAT := Lib.hid (fun e (hat : AtIs p pl e) => hat.at HW.out hk hk1 hk2)
    have hnz := (HW.out.funcs k hk).name.le
    have HFI := Lib.hid (fun W (hm : Mem W g 0 (bytesB p)) => implFind_any g _ cap p.funcs[k].name p W HW.out hm rfl hcap.1 (by unfold maxLen; omega))
    have HFE : Hid (∀ e, FindIs p p.funcs[k].name e → ∃ a : Nat, a ≤ pl ∧ e = .returned (.tuple #[.int .u64 a, .bool true])) := Lib.hid (fun e he => by
      rcases he with ⟨hno, _⟩ | ⟨j, hj, _, hfirst, rfl⟩
      · exact absurd rfl (hno k hk)
      · refine ⟨bndN p j, ?_, rfl⟩
        have hjk : j ≤ k := Nat.le_of_not_lt (fun h => hfirst k hk h rfl)
        rcases Nat.lt_or_eq_of_le hjk with h | h
        · have := HW.out.bnd_mono j k h (Nat.le_of_lt hk)
          omega
        · rw [h]; exact hk1)
    clear hk1 hk2 HNM
    generalize p.funcs[k].name = nm at *
    have hq : (nm.toList == nm.toList) = true := by simp
    have hqn : (nm.toList != nm.toList) = false := by simp
    go_wp2_with fail
    refine Calls.mono HA.out ?_
    rintro e w5 ⟨hat, hb5⟩
    obtain rfl := HAT.out e hat
    have HB5 := Lib.hid (below_next HB4.out hb5)
    have HM5 := Lib.hid (HM4.out.keep hgl4 hb5)
    have hgl5 : g < w5.heap.size := Nat.lt_of_lt_of_le hgl4 hb5.size
    clear hb5 hat HM4 HA HAT
    go_wp2_with fail
    refine Calls.mono (implFuncs_any g _ cap p w5 HW.out HM5.out rfl hcap.1) ?_
    rintro e w6 ⟨v, rfl, hF, hb6⟩
    have HB6 := Lib.hid (below_next HB5.out hb6)
    have HM6 := Lib.hid (HM5.out.keep hgl5 hb6)
    clear hb6 hF
    go_wp2_with fail
    refine Calls.mono (HFI.out _ HM6.out) ?_
    rintro e w7 ⟨hfi, hb7⟩
    obtain ⟨a, ha, rfl⟩ := HFE.out e hfi
    have HB7 := Lib.hid (below_next HB6.out hb7)
    have hd : decide ((a : Int) ≤ (pl : Int)) = true := by simp; omega
    have hdn : decide (a ≤ pl) = true := by simp; omega
    clear hb7 hfi
    go_wp2_with fail
    go_ret
    exact ⟨rfl, HB0.out.trans (HB7.out.mono HB0.out.size)⟩
end Go.Proofs.YtoedlabfiialfaaGreat
