/-
  The walk through the law FnExactPlain.
-/
import Derived.Test.YtoedlabfiialfaaPla
import Derived.Test.YtoedlabfiialfaaLn
import Derived.Test.YtoedlabfiialfaaWell
import Derived.Test.YtoedlabfiialfaaByt1
import Derived.Test.YtoedlabfiialfaaOwn
namespace Go.Proofs.Ytoedlabfiialfaa
open Go.RowKit

theorem bnd_unique {p : Pg} (H : WellP p) {i j pc : Nat} (hi : i < p.funcs.length) (hj : j < p.funcs.length) (a1 : bndN p i ≤ pc) (a2 : pc < bndN p (i + 1)) (b1 : bndN p j ≤ pc) (b2 : pc < bndN p (j + 1)) : i = j := by
  rcases Nat.lt_trichotomy i j with h | h | h
  · have : bndN p (i + 1) ≤ bndN p j := by
      rcases Nat.lt_or_eq_of_le (show i + 1 ≤ j from h) with h' | h'
      · exact Nat.le_of_lt (H.bnd_mono _ _ h' (by omega))
      · rw [h']; exact Nat.le_refl _
    omega
  · exact h
  · have : bndN p (j + 1) ≤ bndN p i := by
      rcases Nat.lt_or_eq_of_le (show j + 1 ≤ i from h) with h' | h'
      · exact Nat.le_of_lt (H.bnd_mono _ _ h' (by omega))
      · rw [h']; exact Nat.le_refl _
    omega
theorem LineIs.out {p : Pg} {pc : Nat} {e : Ending} (H : WellP p) (h : LineIs p pc e) (ho : pc < bndN p 0 ∨ bndN p p.funcs.length ≤ pc) : e = .returned (.int .i64 (-1)) := by
  rcases h with ⟨_, h⟩ | ⟨k, hk, h1, h2, _⟩
  · exact h
  · exfalso
    rcases ho with h | h
    · rcases Nat.eq_zero_or_pos k with rfl | h0
      · omega
      · have := H.bnd_mono 0 k h0 (Nat.le_of_lt hk); omega
    · rcases Nat.lt_or_eq_of_le (show k + 1 ≤ p.funcs.length from hk) with h' | h'
      · have := H.bnd_mono _ _ h' (Nat.le_refl _); omega
      · rw [h'] at h2; omega
theorem LineIs.at {p : Pg} {pc i : Nat} {e : Ending} (H : WellP p) (h : LineIs p pc e) (hi : i < p.funcs.length) (h1 : bndN p i ≤ pc) (h2 : pc < bndN p (i + 1)) : e = .returned (.int .i64 (valN p.quantum.toNat p.funcs[i].lines (pc - bndN p i))) := by
  rcases h with ⟨ho, _⟩ | ⟨k, hk, k1, k2, he⟩
  · exfalso
    rcases ho with h | h
    · rcases Nat.eq_zero_or_pos i with rfl | h0
      · omega
      · have := H.bnd_mono 0 i h0 (Nat.le_of_lt hi); omega
    · rcases Nat.lt_or_eq_of_le (show i + 1 ≤ p.funcs.length from hi) with h' | h'
      · have := H.bnd_mono _ _ h' (Nat.le_refl _); omega
      · rw [h'] at h2; omega
  · obtain rfl := bnd_unique H hi hk h1 h2 k1 k2
    exact he

set_option maxRecDepth 100000 in
set_option maxHeartbeats 2000000 in
theorem exactPlain_any (FA SA : Option Addr) (fc sc : Nat) (p : Pg) (pl : Nat) (B : Nat) (w : World) (H : PgOk w B FA SA fc sc p) (hpl : pl < 18446744073709551616) :
    Calls Try.prog 3 #[pgv FA SA fc sc p, .int .u64 pl] w fun e w' => e = .returned (.bool true) ∧ Below w.heap.size w w' := by
  have hb0 := below_new w (.cells #[.int .u64 p.start, .slice FA p.funcs.length fc, .slice SA p.files.length sc, .bool p.big, .bool p.wide, .int .i64 p.quantum] 26)
  have HH := Lib.hid (H.keep (hb0.mono H.bd))
  have HB0 := Lib.hid hb0
  have HBX := Lib.hid (pbox_new w FA SA fc sc p 26)
  clear hb0 H
  go_enter Try.func3, Try.ntmps3
  have e0 := HBX.out.c0
  have e1 := HBX.out.c1
  have e2 := HBX.out.c2
  have e3 := HBX.out.c3
  have e4 := HBX.out.c4
  have e5 := HBX.out.c5
  go_wp2_with fail
  generalize (w.alloc (.cells #[.int .u64 p.start, .slice FA p.funcs.length fc, .slice SA p.files.length sc, .bool p.big, .bool p.wide, .int .i64 p.quantum] 26)) = W0 at *
  have hlX := HBX.out.lt
  refine Calls.mono (zzFits1_any FA SA fc sc p B W0 HH.out) ?_
  rintro e w1 ⟨b, rfl, hb1⟩
  cases b
  · go_wp2_with fail
    go_ret
    exact ⟨rfl, HB0.out.trans (hb1.mono HB0.out.size)⟩
  have HB1 := Lib.hid hb1
  clear hb1 e0 e1 e2 e3 e4 e5
  have hbX := HBX.out.keep HB1.out hlX
  have hlX1 := hbX.lt
  have e0 := hbX.c0
  have e1 := hbX.c1
  have e2 := hbX.c2
  have e3 := hbX.c3
  have e4 := hbX.c4
  have e5 := hbX.c5
  clear hbX
  go_wp2_with fail
  refine Calls.mono (well_any FA SA fc sc p B w1 (HH.out.keep (HB1.out.mono HH.out.bd))) ?_
  rintro e w2 ⟨b, rfl, hbi, hb2⟩
  have HB2 := Lib.hid (below_next HB1.out hb2)
  clear hb2 e0 e1 e2 e3 e4 e5
  cases b
  · go_wp2_with fail
    go_ret
    exact ⟨rfl, HB0.out.trans (HB2.out.mono HB0.out.size)⟩
  have HW := Lib.hid (hbi.1 rfl)
  clear hbi
  have hbX := HBX.out.keep HB2.out hlX
  have hlX2 := hbX.lt
  have e0 := hbX.c0
  have e1 := hbX.c1
  have e2 := hbX.c2
  have e3 := hbX.c3
  have e4 := hbX.c4
  have e5 := hbX.c5
  clear hbX
  go_wp2_with fail
  refine Calls.mono (find_any FA SA fc sc p pl B w2 (HH.out.keep (HB2.out.mono HH.out.bd)) HW.out) ?_
  rintro e w3 ⟨hb3, hcase⟩
  have HB3 := Lib.hid (below_next HB2.out hb3)
  clear hb3 e0 e1 e2 e3 e4 e5
  have hbX := HBX.out.keep HB3.out hlX
  have hlX3 := hbX.lt
  have e0 := hbX.c0
  have e1 := hbX.c1
  have e2 := hbX.c2
  have e3 := hbX.c3
  have e4 := hbX.c4
  have e5 := hbX.c5
  clear hbX
  have hll := HW.out.len_le
  rcases hcase with ⟨hout, rfl⟩ | ⟨k, hk, hk1, hk2, rfl⟩
  · have HO := Lib.hid hout
    clear hout
    go_wp2_with fail
    refine Calls.mono (bytes_any FA SA fc sc p B w3 (HH.out.keep (HB3.out.mono HH.out.bd)) HW.out) ?_
    rintro e w4 ⟨g, cap, rfl, hO, hb4⟩
    have HB4 := Lib.hid (below_next HB3.out hb4)
    have hcap := hO.cap (by omega)
    have HM := Lib.hid hO.mem
    clear hO hb4 e0 e1 e2 e3 e4 e5
    go_wp2_with fail
    refine Calls.mono (plain_any g _ cap pl p w4 HW.out HM.out rfl hcap.1 hcap.2 hpl) ?_
    rintro e w5 ⟨hli, hb5⟩
    obtain rfl := hli.out HW.out HO.out
    have HB5 := Lib.hid (below_next HB4.out hb5)
    clear hli hb5
    go_wp2_with fail
    go_ret
    exact ⟨rfl, HB0.out.trans (HB5.out.mono HB0.out.size)⟩
  · have HK := Lib.hid (And.intro hk1 hk2)
    clear hk1 hk2
    have hvz := (HW.out.funcs k hk).lines.val p.quantum.toNat (pl - bndN p k)
    obtain ⟨z, hz⟩ : ∃ z, valN p.quantum.toNat p.funcs[k].lines (pl - bndN p k) = z := ⟨_, rfl⟩
    have HC := Lib.hid (spLine_any FA SA fc sc p k pl B w3 (HH.out.keep (HB3.out.mono HH.out.bd)) HW.out hk HK.out.1 hpl)
    rw [hz] at HC hvz
    have HZ := Lib.hid hz
    clear hz
    go_wp2_with fail
    refine Calls.mono HC.out ?_
    rintro e w4 ⟨rfl, hb4⟩
    have HB4 := Lib.hid (below_next HB3.out hb4)
    clear hb4 e0 e1 e2 e3 e4 e5
    have hbX := HBX.out.keep HB4.out hlX
    have hlX4 := hbX.lt
    have e0 := hbX.c0
    have e1 := hbX.c1
    have e2 := hbX.c2
    have e3 := hbX.c3
    have e4 := hbX.c4
    have e5 := hbX.c5
    clear hbX
    go_wp2_with fail
    refine Calls.mono (bytes_any FA SA fc sc p B w4 (HH.out.keep (HB4.out.mono HH.out.bd)) HW.out) ?_
    rintro e w5 ⟨g, cap, rfl, hO, hb5⟩
    have HB5 := Lib.hid (below_next HB4.out hb5)
    have hcap := hO.cap (by omega)
    have HM := Lib.hid hO.mem
    clear hO hb5 e0 e1 e2 e3 e4 e5
    go_wp2_with fail
    refine Calls.mono (plain_any g _ cap pl p w5 HW.out HM.out rfl hcap.1 hcap.2 hpl) ?_
    rintro e w6 ⟨hli, hb6⟩
    obtain rfl := hli.at HW.out hk HK.out.1 HK.out.2
    rw [HZ.out]
    have HB6 := Lib.hid (below_next HB5.out hb6)
    clear hli hb6
    go_wp2_with fail
    go_ret
    exact ⟨by simp, HB0.out.trans (HB6.out.mono HB0.out.size)⟩
end Go.Proofs.Ytoedlabfiialfaa
