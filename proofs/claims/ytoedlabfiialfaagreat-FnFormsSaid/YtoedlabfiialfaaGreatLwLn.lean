/-
  The walk through the law FnExactLine.
-/
import Derived.Test.YtoedlabfiialfaaGreatIli
import Derived.Test.YtoedlabfiialfaaGreatWell
import Derived.Test.YtoedlabfiialfaaGreatByt1
import Derived.Test.YtoedlabfiialfaaGreatFits
namespace Go.Proofs.YtoedlabfiialfaaGreat
open Go.RowKit

/-- the number of the function of a place, out of what Find tells -/
theorem find_at {p : Pg} (H : WellP p) {pc k : Nat} {e : Ending} (hk : k < p.funcs.length) (hk1 : bndN p k ≤ pc) (hk2 : pc < bndN p (k + 1))
    (hcase : ((pc < bndN p 0 ∨ bndN p p.funcs.length ≤ pc) ∧ e = .returned (.int .i64 (-1))) ∨ ∃ j, j < p.funcs.length ∧ bndN p j ≤ pc ∧ pc < bndN p (j + 1) ∧ e = .returned (.int .i64 j)) : e = .returned (.int .i64 k) := by
  rcases hcase with ⟨ho, _⟩ | ⟨j, hj, h1, h2, h⟩
  · exfalso
    rcases ho with h | h
    · rcases Nat.eq_zero_or_pos k with h0 | h0
      · subst h0; omega
      · have := H.bnd_mono 0 k h0 (Nat.le_of_lt hk); omega
    · rcases Nat.lt_or_eq_of_le (show k + 1 ≤ p.funcs.length from hk) with h' | h'
      · have := H.bnd_mono _ _ h' (Nat.le_refl _); omega
      · rw [h'] at hk2; omega
  · obtain rfl := bnd_unique H hk hj hk1 hk2 h1 h2
    exact h
theorem find_out {p : Pg} (H : WellP p) {pc : Nat} {e : Ending} (ho : pc < bndN p 0 ∨ bndN p p.funcs.length ≤ pc)
    (hcase : ((pc < bndN p 0 ∨ bndN p p.funcs.length ≤ pc) ∧ e = .returned (.int .i64 (-1))) ∨ ∃ j, j < p.funcs.length ∧ bndN p j ≤ pc ∧ pc < bndN p (j + 1) ∧ e = .returned (.int .i64 j)) : e = .returned (.int .i64 (-1)) := by
  rcases hcase with ⟨_, h⟩ | ⟨j, hj, h1, h2, _⟩
  · exact h
  · exfalso
    rcases ho with h | h
    · rcases Nat.eq_zero_or_pos j with rfl | h0
      · omega
      · have := H.bnd_mono 0 j h0 (Nat.le_of_lt hj); omega
    · rcases Nat.lt_or_eq_of_le (show j + 1 ≤ p.funcs.length from hj) with h' | h'
      · have := H.bnd_mono _ _ h' (Nat.le_refl _); omega
      · rw [h'] at h2; omega

set_option maxRecDepth 100000 in
set_option maxHeartbeats 4000000 in
theorem exactLine_any (FA SA : Option Addr) (fc sc : Nat) (p : Pg) (pl : Nat) (B : Nat) (w : World) (H : PgOk w B FA SA fc sc p) (hpl : pl < 18446744073709551616) :
    Calls Tryz.prog 3 #[pgv FA SA fc sc p, .int .u64 pl] w fun e w' => e = .returned (.bool true) ∧ Below w.heap.size w w' := by
  have hb0 := below_new w (.cells #[.int .u64 p.start, .slice FA p.funcs.length fc, .slice SA p.files.length sc, .bool p.big, .bool p.wide, .int .i64 p.quantum] 26)
  have HH := Lib.hid (H.keep (hb0.mono H.bd))
  have HB0 := Lib.hid hb0
  have HBX := Lib.hid (pbox_new w FA SA fc sc p 26)
  clear hb0 H
  go_enter Tryz.func3, Tryz.ntmps3
  have e0 := HBX.out.c0
  have e1 := HBX.out.c1
  have e2 := HBX.out.c2
  have e3 := HBX.out.c3
  have e4 := HBX.out.c4
  have e5 := HBX.out.c5
  go_wp2_with fail
  generalize (w.alloc (.cells #[.int .u64 p.start, .slice FA p.funcs.length fc, .slice SA p.files.length sc, .bool p.big, .bool p.wide, .int .i64 p.quantum] 26)) = W0 at *
  have hlX := HBX.out.lt
  refine Calls.mono (zzFits1_any FA SA fc sc p B W0 HH.out) ?_
  rintro e w1 ⟨b, rfl, hb1⟩
  cases b
  · go_wp2_with fail
    go_ret
    exact ⟨rfl, HB0.out.trans (hb1.mono HB0.out.size)⟩
  have HB1 := Lib.hid hb1
  clear hb1 e0 e1 e2 e3 e4 e5
  have hbX := HBX.out.keep HB1.out hlX
  have hlX1 := hbX.lt
  have e0 := hbX.c0
  have e1 := hbX.c1
  have e2 := hbX.c2
  have e3 := hbX.c3
  have e4 := hbX.c4
  have e5 := hbX.c5
  clear hbX
  go_wp2_with fail
  refine Calls.mono (well_any FA SA fc sc p B w1 (HH.out.keep (HB1.out.mono HH.out.bd))) ?_
  rintro e w2 ⟨b, rfl, hbi, hb2⟩
  have HB2 := Lib.hid (below_next HB1.out hb2)
  clear hb2 e0 e1 e2 e3 e4 e5
  cases b
  · go_wp2_with fail
    go_ret
    exact ⟨rfl, HB0.out.trans (HB2.out.mono HB0.out.size)⟩
  have HW := Lib.hid (hbi.1 rfl)
  clear hbi
  have hll := HW.out.len_le
  have hbX := HBX.out.keep HB2.out hlX
  have hlX2 := hbX.lt
  have e0 := hbX.c0
  have e1 := hbX.c1
  have e2 := hbX.c2
  have e3 := hbX.c3
  have e4 := hbX.c4
  have e5 := hbX.c5
  clear hbX
  go_wp2_with fail
  refine Calls.mono (bytes_any FA SA fc sc p B w2 (HH.out.keep (HB2.out.mono HH.out.bd)) HW.out) ?_
  rintro e w3 ⟨g, cap, rfl, hO, hb3⟩
  have HB3 := Lib.hid (below_next HB2.out hb3)
  have hcap := hO.cap (by omega)
  have HM := Lib.hid hO.mem
  clear hO hb3 e0 e1 e2 e3 e4 e5
  have hs0 : ((default : ByteArray)) = ⟨#[]⟩ := rfl
  go_wp2_with fail
  refine Calls.mono (implLine_any g _ cap pl p w3 HW.out HM.out rfl hcap.1 hpl) ?_
  rintro e w4 ⟨hat, hb4⟩
  have HB4 := Lib.hid (below_next HB3.out hb4)
  clear hb4 HM hs0
  have hbX := HBX.out.keep HB4.out hlX
  have hlX4 := hbX.lt
  have e0 := hbX.c0
  have e1 := hbX.c1
  have e2 := hbX.c2
  have e3 := hbX.c3
  have e4 := hbX.c4
  have e5 := hbX.c5
  clear hbX
  have HF := Lib.hid (find_any FA SA fc sc p pl B w4 (HH.out.keep (HB4.out.mono HH.out.bd)) HW.out)
  rcases hat with ⟨hout, rfl⟩ | ⟨k, hk, hk1, hk2, rfl⟩
  · have HO := Lib.hid hout
    clear hout
    go_wp2_with fail
    refine Calls.mono HF.out ?_
    rintro e w5 ⟨hb5, hcase⟩
    have HB5 := Lib.hid (below_next HB4.out hb5)
    obtain rfl := find_out HW.out HO.out hcase
    clear hb5 e0 e1 e2 e3 e4 e5 HF hcase
    have hbX := HBX.out.keep HB5.out hlX
    have hlX5 := hbX.lt
    have e0 := hbX.c0
    have e1 := hbX.c1
    have e2 := hbX.c2
    have e3 := hbX.c3
    have e4 := hbX.c4
    have e5 := hbX.c5
    clear hbX
    have hln : decide ((0 : Int) < ((bytesB p).length : Int)) = true := by simp; omega
    have hln2 : decide (0 < (bytesB p).length) = true := by simp; omega
    have hq : ((⟨#[]⟩ : ByteArray).toList == (⟨#[]⟩ : ByteArray).toList) = true := by simp
    go_wp2_with fail
    refine Calls.mono (bytes_any FA SA fc sc p B w5 (HH.out.keep (HB5.out.mono HH.out.bd)) HW.out) ?_
    rintro e w6 ⟨g6, cap6, rfl, _, hb6⟩
    have HB6 := Lib.hid (below_next HB5.out hb6)
    clear hb6 e0 e1 e2 e3 e4 e5
    go_wp2_with fail
    go_ret
    exact ⟨rfl, HB0.out.trans (HB6.out.mono HB0.out.size)⟩
  · have hfn := (HH.out.fn) k hk
    obtain ⟨b, off, rfl, hfa⟩ := hfn
    have hn0 := ((hfa.keep (HB4.out.mono HH.out.bd))).name
    have hbB : b < W0.heap.size := Nat.lt_of_lt_of_le hfa.lt HH.out.bd
    have hb4l : b < w4.heap.size := Nat.lt_of_lt_of_le hbB HB4.out.size
    have hfl := HW.out.head.fl
    have HK := Lib.hid (And.intro hk1 hk2)
    clear hfa hk1 hk2
    obtain ⟨s, hs⟩ : ∃ s, fileN p k (pl - bndN p k) = s := ⟨_, rfl⟩
    obtain ⟨z, hz⟩ : ∃ z, valN p.quantum.toNat p.funcs[k].lines (pl - bndN p k) = z := ⟨_, rfl⟩
    rw [hs, hz]
    have HSZ := Lib.hid (And.intro hs hz)
    clear hs hz
    go_wp2_with fail
    refine Calls.mono HF.out ?_
    rintro e w5 ⟨hb5, hcase⟩
    have HB5 := Lib.hid (below_next HB4.out hb5)
    obtain rfl := find_at HW.out hk HK.out.1 HK.out.2 hcase
    have hn1 := (hb5.cell (p := ⟨b, off + k * 5, none⟩) hb4l).trans hn0
    have hb5l : b < w5.heap.size := Nat.lt_of_lt_of_le hb4l hb5.size
    clear hb5 e0 e1 e2 e3 e4 e5 HF hcase hn0
    have hbX := HBX.out.keep HB5.out hlX
    have hlX5 := hbX.lt
    have e0 := hbX.c0
    have e1 := hbX.c1
    have e2 := hbX.c2
    have e3 := hbX.c3
    have e4 := hbX.c4
    have e5 := hbX.c5
    clear hbX
    have HC := Lib.hid (spLine_any (some ⟨b, off, none⟩) SA fc sc p k pl B w5 (HH.out.keep (HB5.out.mono HH.out.bd)) HW.out hk HK.out.1 hpl)
    rw [HSZ.out.1, HSZ.out.2] at HC
    go_wp2_with fail
    refine Calls.mono HC.out ?_
    rintro e w6 ⟨rfl, hb6⟩
    have HB6 := Lib.hid (below_next HB5.out hb6)
    have hn2 := (hb6.cell (p := ⟨b, off + k * 5, none⟩) hb5l).trans hn1
    have hb6l : b < w6.heap.size := Nat.lt_of_lt_of_le hb5l hb6.size
    clear hb6 e0 e1 e2 e3 e4 e5 HC hn1
    have hbX := HBX.out.keep HB6.out hlX
    have hlX6 := hbX.lt
    have e0 := hbX.c0
    have e1 := hbX.c1
    have e2 := hbX.c2
    have e3 := hbX.c3
    have e4 := hbX.c4
    have e5 := hbX.c5
    clear hbX
    have hq1 : (s.toList == s.toList) = true := by simp
    have hq : (p.funcs[k].name.toList == p.funcs[k].name.toList) = true := by simp
    generalize p.funcs[k].name = nm at *
    go_wp2_with fail
    go_ret
    exact ⟨rfl, HB0.out.trans (HB6.out.mono HB0.out.size)⟩
end Go.Proofs.YtoedlabfiialfaaGreat
