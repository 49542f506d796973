/-
  The walk through the law FnExactFind.
-/
import Derived.Test.YtoedlabfiialfaaLwAt
namespace Go.Proofs.Ytoedlabfiialfaa
open Go.RowKit

set_option maxRecDepth 100000 in
set_option maxHeartbeats 4000000 in
theorem exactFind_any (FA SA : Option Addr) (fc sc : Nat) (p : Pg) (nm : ByteArray) (B : Nat) (w : World) (H : PgOk w B FA SA fc sc p) (hnm : nm.size ≤ maxLen) :
    Calls Try.prog 4 #[pgv FA SA fc sc p, .string nm] w fun e w' => e = .returned (.bool true) ∧ Below w.heap.size w w' := by
  have hb0 := below_new w (.cells #[.int .u64 p.start, .slice FA p.funcs.length fc, .slice SA p.files.length sc, .bool p.big, .bool p.wide, .int .i64 p.quantum] 26)
  have HH := Lib.hid (H.keep (hb0.mono H.bd))
  have HB0 := Lib.hid hb0
  have HBX := Lib.hid (pbox_new w FA SA fc sc p 26)
  clear hb0 H
  go_enter Try.func4, Try.ntmps4
  have e0 := HBX.out.c0
  have e1 := HBX.out.c1
  have e2 := HBX.out.c2
  have e3 := HBX.out.c3
  have e4 := HBX.out.c4
  have e5 := HBX.out.c5
  go_wp2_with fail
  generalize (w.alloc (.cells #[.int .u64 p.start, .slice FA p.funcs.length fc, .slice SA p.files.length sc, .bool p.big, .bool p.wide, .int .i64 p.quantum] 26)) = W0 at *
  have hlX := HBX.out.lt
  refine Calls.mono (zzFits1_any FA SA fc sc p B W0 HH.out) ?_
  rintro e w1 ⟨b, rfl, hb1⟩
  cases b
  · go_wp2_with fail
    go_ret
    exact ⟨rfl, HB0.out.trans (hb1.mono HB0.out.size)⟩
  have HB1 := Lib.hid hb1
  clear hb1 e0 e1 e2 e3 e4 e5
  have hbX := HBX.out.keep HB1.out hlX
  have hlX1 := hbX.lt
  have e0 := hbX.c0
  have e1 := hbX.c1
  have e2 := hbX.c2
  have e3 := hbX.c3
  have e4 := hbX.c4
  have e5 := hbX.c5
  clear hbX
  rcases Nat.lt_or_ge 2147483647 nm.size with hz | hz
  · have hd : decide ((2147483647 : Int) < (nm.size : Int)) = true := by simp; omega
    have hdn : decide (2147483647 < nm.size) = true := by simp; omega
    go_wp2_with fail
    go_ret
    exact ⟨rfl, HB0.out.trans (HB1.out.mono HB0.out.size)⟩
  have hd : decide ((2147483647 : Int) < (nm.size : Int)) = false := by simp; omega
  have hdn : decide (2147483647 < nm.size) = false := by simp; omega
  go_wp2_with fail
  refine Calls.mono (well_any FA SA fc sc p B w1 (HH.out.keep (HB1.out.mono HH.out.bd))) ?_
  rintro e w2 ⟨b, rfl, hbi, hb2⟩
  have HB2 := Lib.hid (below_next HB1.out hb2)
  clear hb2 e0 e1 e2 e3 e4 e5
  cases b
  · go_wp2_with fail
    go_ret
    exact ⟨rfl, HB0.out.trans (HB2.out.mono HB0.out.size)⟩
  have HW := Lib.hid (hbi.1 rfl)
  clear hbi
  have hll := HW.out.len_le
  have hbX := HBX.out.keep HB2.out hlX
  have hlX2 := hbX.lt
  have e0 := hbX.c0
  have e1 := hbX.c1
  have e2 := hbX.c2
  have e3 := hbX.c3
  have e4 := hbX.c4
  have e5 := hbX.c5
  clear hbX
  go_wp2_with fail
  refine Calls.mono (bytes_any FA SA fc sc p B w2 (HH.out.keep (HB2.out.mono HH.out.bd)) HW.out) ?_
  rintro e w3 ⟨g, cap, rfl, hO, hb3⟩
  have HB3 := Lib.hid (below_next HB2.out hb3)
  have hcap := hO.cap (by omega)
  have HM := Lib.hid hO.mem
  clear hO hb3 e0 e1 e2 e3 e4 e5
  go_wp2_with fail
  refine Calls.mono (implFind_any g _ cap nm p w3 HW.out HM.out rfl hcap.1 hnm) ?_
  rintro e w4 ⟨hat, hb4⟩
  have HB4 := Lib.hid (below_next HB3.out hb4)
  clear hb4 HM
  have hbX := HBX.out.keep HB4.out hlX
  have hlX4 := hbX.lt
  have e0 := hbX.c0
  have e1 := hbX.c1
  have e2 := hbX.c2
  have e3 := hbX.c3
  have e4 := hbX.c4
  have e5 := hbX.c5
  clear hbX
  have hfl := HW.out.head.fl
  rcases hat with ⟨hall, rfl⟩ | ⟨k0, hk0, he0, hfirst, rfl⟩
  · have HN := Lib.hid hall
    clear hall
    go_wp2_with fail
    go_loopw [32] (fun i wr => ∃ k : Nat, k ≤ p.funcs.length ∧ i = .int .i64 k ∧ Below W0.heap.size W0 wr) (fun i _ => p.funcs.length - (intOf i).toNat)
    case atStart => exact ⟨0, Nat.zero_le _, rfl, HB4.out⟩
    case round =>
      obtain ⟨k, hk, rfl, hb⟩ := hrel
      have HB := Lib.hid hb
      have hzr := hb.size
      by_cases hlt2 : k < p.funcs.length
      · obtain ⟨b, off, rfl, hf⟩ := ((HH.out.fn).keep (hb.mono HH.out.bd)) k hlt2
        have c0 := hf.name
        have c1 := hf.frame
        obtain ⟨LA, lc, c2, r2⟩ := hf.lines
        obtain ⟨QA, qc, c3, r3⟩ := hf.files
        have c4 := hf.free
        have hbl : b < wr.heap.size := Nat.lt_of_lt_of_le (Nat.lt_of_lt_of_le hf.lt HH.out.bd) hzr
        have hnz := (HW.out.funcs k hlt2).name.le
        have hq : (p.funcs[k].name.toList == nm.toList) = false := toList_ne (HN.out k hlt2)
        clear r2 r3 hf
        generalize p.funcs[k] = f at *
        go_wp2_with fail
        exact ⟨⟨k + 1, hlt2, by go_num, HB.out.alloc hzr _⟩, by simp [intOf]; omega⟩
      · obtain rfl : k = p.funcs.length := by omega
        go_wp2_with fail
        go_ret
        exact ⟨rfl, HB0.out.trans (HB.out.mono HB0.out.size)⟩
  · have HN := Lib.hid hfirst
    have HE := Lib.hid he0
    clear hfirst he0
    go_wp2_with fail
    go_loopw [32] (fun i wr => ∃ k : Nat, k ≤ k0 ∧ i = .int .i64 k ∧ Below W0.heap.size W0 wr) (fun i _ => p.funcs.length - (intOf i).toNat)
    case atStart => exact ⟨0, Nat.zero_le _, rfl, HB4.out⟩
    case round =>
      obtain ⟨k, hk, rfl, hb⟩ := hrel
      have HB := Lib.hid hb
      have hzr := hb.size
      by_cases hlt2 : k < p.funcs.length
      · obtain ⟨b, off, rfl, hf⟩ := ((HH.out.fn).keep (hb.mono HH.out.bd)) k hlt2
        have c0 := hf.name
        have c1 := hf.frame
        obtain ⟨LA, lc, c2, r2⟩ := hf.lines
        obtain ⟨QA, qc, c3, r3⟩ := hf.files
        have c4 := hf.free
        have hbl : b < wr.heap.size := Nat.lt_of_lt_of_le (Nat.lt_of_lt_of_le hf.lt HH.out.bd) hzr
        have hnz := (HW.out.funcs k hlt2).name.le
        rcases Nat.lt_or_eq_of_le hk with hk' | rfl
        · have hne := HN.out k hlt2 hk'
          have hq : (p.funcs[k].name.toList == nm.toList) = false := toList_ne hne
          clear r2 r3 hf
          generalize p.funcs[k] = f at *
          go_wp2_with fail
          exact ⟨⟨k + 1, hk', by go_num, HB.out.alloc hzr _⟩, by simp [intOf]; omega⟩
        · have hq : (p.funcs[k].name.toList == nm.toList) = true := by rw [HE.out]; simp
          have hwx := hb.cell (p := ⟨w.heap.size, 0, none⟩) hlX
          have hbX := HBX.out.keep HB.out hlX
          have hlXr := hbX.lt
          have x0 := hbX.c0
          have x1 := hbX.c1
          have x2 := hbX.c2
          have x3 := hbX.c3
          have x4 := hbX.c4
          have x5 := hbX.c5
          clear hbX r2 r3 hf hwx
          have HC : Hid (∀ o, Calls Try.prog 14 #[pgv (some ⟨b, off, none⟩) SA fc sc p, .int .i64 k] (wr.alloc o) fun e w' => e = .returned (.tuple #[.int .u64 (bndN p k), .int .u64 (bndN p (k + 1))]) ∧ Below (wr.alloc o).heap.size (wr.alloc o) w') := Lib.hid (fun o => by
            have := bounds_any (some ⟨b, off, none⟩) SA fc sc p k B (wr.alloc o) (HH.out.keep ((HB.out.alloc hzr o).mono HH.out.bd)) hlt2
            rwa [bndW_eq HW.out k (Nat.le_of_lt hlt2), bndW_eq HW.out (k + 1) hlt2] at this)
          generalize p.funcs[k] = f at *
          go_wp2_with fail
          refine Calls.mono (HC.out _) ?_
          rintro e w6 ⟨rfl, hb6⟩
          have HB6 := Lib.hid (below_next (HB.out.alloc hzr _) hb6)
          clear hb6
          go_wp2_with fail
          go_ret
          exact ⟨by simp, HB0.out.trans (HB6.out.mono HB0.out.size)⟩
      · omega
end Go.Proofs.Ytoedlabfiialfaa
