/-
  The walk through the law FnExactAt.
-/
import Derived.Test.YtoedlabfiialfaaIat
import Derived.Test.YtoedlabfiialfaaLwPl
import Derived.Deep.RegionHeld3
namespace Go.Proofs.Ytoedlabfiialfaa
open Go.RowKit

theorem bnd_zero (p : Pg) : bndN p 0 = p.start := by unfold bndN; cases p.funcs <;> rfl
theorem AtIs.out {p : Pg} {pc : Nat} {e : Ending} (H : WellP p) (h : AtIs p pc e) (ho : pc < bndN p 0 ∨ bndN p p.funcs.length ≤ pc) : e = .returned (.tuple #[.string ⟨#[]⟩, .bool false]) := by
  rcases h with ⟨_, h⟩ | ⟨k, hk, h1, h2, _⟩
  · exact h
  · exfalso
    rcases ho with h | h
    · rcases Nat.eq_zero_or_pos k with rfl | h0
      · omega
      · have := H.bnd_mono 0 k h0 (Nat.le_of_lt hk); omega
    · rcases Nat.lt_or_eq_of_le (show k + 1 ≤ p.funcs.length from hk) with h' | h'
      · have := H.bnd_mono _ _ h' (Nat.le_refl _); omega
      · rw [h'] at h2; omega
theorem AtIs.at {p : Pg} {pc i : Nat} {e : Ending} (H : WellP p) (h : AtIs p pc e) (hi : i < p.funcs.length) (h1 : bndN p i ≤ pc) (h2 : pc < bndN p (i + 1)) : e = .returned (.tuple #[.string p.funcs[i].name, .bool true]) := by
  rcases h with ⟨ho, _⟩ | ⟨k, hk, k1, k2, he⟩
  · exfalso
    rcases ho with h | h
    · rcases Nat.eq_zero_or_pos i with rfl | h0
      · omega
      · have := H.bnd_mono 0 i h0 (Nat.le_of_lt hi); omega
    · rcases Nat.lt_or_eq_of_le (show i + 1 ≤ p.funcs.length from hi) with h' | h'
      · have := H.bnd_mono _ _ h' (Nat.le_refl _); omega
      · rw [h'] at h2; omega
  · obtain rfl := bnd_unique H hi hk h1 h2 k1 k2
    exact he

set_option maxRecDepth 100000 in
set_option maxHeartbeats 4000000 in
theorem exactAt_any (FA SA : Option Addr) (fc sc : Nat) (p : Pg) (pl : Nat) (B : Nat) (w : World) (H : PgOk w B FA SA fc sc p) (hpl : pl < 18446744073709551616) :
    Calls Try.prog 6 #[pgv FA SA fc sc p, .int .u64 pl] w fun e w' => e = .returned (.bool true) ∧ Below w.heap.size w w' := by
  have hb0 := below_new w (.cells #[.int .u64 p.start, .slice FA p.funcs.length fc, .slice SA p.files.length sc, .bool p.big, .bool p.wide, .int .i64 p.quantum] 26)
  have HH := Lib.hid (H.keep (hb0.mono H.bd))
  have HB0 := Lib.hid hb0
  have HBX := Lib.hid (pbox_new w FA SA fc sc p 26)
  clear hb0 H
  go_enter Try.func6, Try.ntmps6
  have e0 := HBX.out.c0
  have e1 := HBX.out.c1
  have e2 := HBX.out.c2
  have e3 := HBX.out.c3
  have e4 := HBX.out.c4
  have e5 := HBX.out.c5
  go_wp2_with fail
  generalize (w.alloc (.cells #[.int .u64 p.start, .slice FA p.funcs.length fc, .slice SA p.files.length sc, .bool p.big, .bool p.wide, .int .i64 p.quantum] 26)) = W0 at *
  have hlX := HBX.out.lt
  refine Calls.mono (zzFits1_any FA SA fc sc p B W0 HH.out) ?_
  rintro e w1 ⟨b, rfl, hb1⟩
  cases b
  · go_wp2_with fail
    go_ret
    exact ⟨rfl, HB0.out.trans (hb1.mono HB0.out.size)⟩
  have HB1 := Lib.hid hb1
  clear hb1 e0 e1 e2 e3 e4 e5
  have hbX := HBX.out.keep HB1.out hlX
  have hlX1 := hbX.lt
  have e0 := hbX.c0
  have e1 := hbX.c1
  have e2 := hbX.c2
  have e3 := hbX.c3
  have e4 := hbX.c4
  have e5 := hbX.c5
  clear hbX
  go_wp2_with fail
  refine Calls.mono (well_any FA SA fc sc p B w1 (HH.out.keep (HB1.out.mono HH.out.bd))) ?_
  rintro e w2 ⟨b, rfl, hbi, hb2⟩
  have HB2 := Lib.hid (below_next HB1.out hb2)
  clear hb2 e0 e1 e2 e3 e4 e5
  cases b
  · go_wp2_with fail
    go_ret
    exact ⟨rfl, HB0.out.trans (HB2.out.mono HB0.out.size)⟩
  have HW := Lib.hid (hbi.1 rfl)
  clear hbi
  have hll := HW.out.len_le
  have hbX := HBX.out.keep HB2.out hlX
  have hlX2 := hbX.lt
  have e0 := hbX.c0
  have e1 := hbX.c1
  have e2 := hbX.c2
  have e3 := hbX.c3
  have e4 := hbX.c4
  have e5 := hbX.c5
  clear hbX
  go_wp2_with fail
  refine Calls.mono (bytes_any FA SA fc sc p B w2 (HH.out.keep (HB2.out.mono HH.out.bd)) HW.out) ?_
  rintro e w3 ⟨g, cap, rfl, hO, hb3⟩
  have HB3 := Lib.hid (below_next HB2.out hb3)
  have hcap := hO.cap (by omega)
  have HM := Lib.hid hO.mem
  clear hO hb3 e0 e1 e2 e3 e4 e5
  go_wp2_with fail
  refine Calls.mono (implAt_any g _ cap pl p w3 HW.out HM.out rfl hcap.1) ?_
  rintro e w4 ⟨hat, hb4⟩
  have HB4 := Lib.hid (below_next HB3.out hb4)
  have HAT := Lib.hid hat
  clear hb4 HM
  have hbX := HBX.out.keep HB4.out hlX
  have hlX4 := hbX.lt
  have e0 := hbX.c0
  have e1 := hbX.c1
  have e2 := hbX.c2
  have e3 := hbX.c3
  have e4 := hbX.c4
  have e5 := hbX.c5
  clear hbX
  have hpos := HW.out.head.pos
  have HF := Lib.hid (find_any FA SA fc sc p pl B w4 (HH.out.keep (HB4.out.mono HH.out.bd)) HW.out)
  rcases hat with ⟨hout, rfl⟩ | ⟨k, hk, hk1, hk2, rfl⟩
  · have HO := Lib.hid hout
    clear hout
    go_wp2_with fail
    refine Calls.mono HF.out ?_
    rintro e w5 ⟨hb5, hcase⟩
    have HB5 := Lib.hid (below_next HB4.out hb5)
    clear hb5 e0 e1 e2 e3 e4 e5 HF
    have hfe : e = .returned (.int .i64 (-1)) := by
      rcases hcase with ⟨_, h⟩ | ⟨k, hk, h1, h2, _⟩
      · exact h
      · have := AtIs.at HW.out HAT.out hk h1 h2
        simp at this
    subst hfe
    clear hcase HAT
    have hbX := HBX.out.keep HB5.out hlX
    have hlX5 := hbX.lt
    have e0 := hbX.c0
    have e1 := hbX.c1
    have e2 := hbX.c2
    have e3 := hbX.c3
    have e4 := hbX.c4
    have e5 := hbX.c5
    clear hbX
    go_wp2_with fail
    have HPD := Lib.hid (HH.out.keep ((HB5.out.drew).mono HH.out.bd))
    have hz0 := HW.out.bnd_lt 0 hpos
    have HZ : Hid (p.start < bndN p 1 ∧ bndN p 0 = p.start) := Lib.hid ⟨by rw [← bnd_zero]; exact hz0, bnd_zero p⟩
    go_region_held3 (fun w' => w'.cell? ⟨w.heap.size, 0, none⟩ = some (.int .u64 p.start) ∧ w'.cell? ⟨w.heap.size, 1, none⟩ = some (.slice FA p.funcs.length fc) ∧ w'.cell? ⟨w.heap.size, 2, none⟩ = some (.slice SA p.files.length sc) ∧ w'.cell? ⟨w.heap.size, 3, none⟩ = some (.bool p.big) ∧ w'.cell? ⟨w.heap.size, 4, none⟩ = some (.bool p.wide) ∧ w'.cell? ⟨w.heap.size, 5, none⟩ = some (.int .i64 p.quantum))
      (first | go_keep)
      (first
        | (go_at_call 11; refine (bytes_any FA SA fc sc p B _ HPD.out HW.out).mono ?_; rintro e w6 ⟨g6, cap6, rfl, hO6, hb6⟩; have hc6 := (bcell hb6).1; have q0 := (hc6 _ 0 hlX5).trans e0; have q1 := (hc6 _ 1 hlX5).trans e1; have q2 := (hc6 _ 2 hlX5).trans e2; have q3 := (hc6 _ 3 hlX5).trans e3; have q4 := (hc6 _ 4 hlX5).trans e4; have q5 := (hc6 _ 5 hlX5).trans e5; have hs6 := hb6.size; clear hc6; have hcap6 := hO6.cap (by omega); have HM6 := Lib.hid hO6.mem; have HB6 := Lib.hid hb6; clear hO6 hb6)
        | (go_at_call 18; refine (implAt_any _ _ _ p.start p _ HW.out HM6.out rfl hcap6.1).mono ?_; rintro e w7 ⟨hat7, hb7⟩; obtain rfl := AtIs.at HW.out hat7 hpos (by rw [HZ.out.2]; exact Nat.le_refl _) HZ.out.1; have hc7 := (bcell hb7).1; have hl7 := Nat.lt_of_lt_of_le hlX5 hs6; have r0 := (hc7 _ 0 hl7).trans q0; have r1 := (hc7 _ 1 hl7).trans q1; have r2 := (hc7 _ 2 hl7).trans q2; have r3 := (hc7 _ 3 hl7).trans q3; have r4 := (hc7 _ 4 hl7).trans q4; have r5 := (hc7 _ 5 hl7).trans q5; clear hc7; have HB7 := Lib.hid hb7; clear hat7 hb7))
    go_wp2_with fail
    go_ret
    exact ⟨rfl, HB0.out.trans ((below_next (below_next HB5.out.drew HB6.out) HB7.out).mono HB0.out.size)⟩
  · have hfn := (HH.out.fn) k hk
    obtain ⟨b, off, rfl, hfa⟩ := hfn
    have hn0 := ((hfa.keep (HB4.out.mono HH.out.bd))).name
    have hbB : b < W0.heap.size := Nat.lt_of_lt_of_le hfa.lt HH.out.bd
    have hb4l : b < w4.heap.size := Nat.lt_of_lt_of_le hbB HB4.out.size
    have hnz := (HW.out.funcs k hk).name.le
    have hfl := HW.out.head.fl
    clear HAT hfa
    go_wp2_with fail
    refine Calls.mono HF.out ?_
    rintro e w5 ⟨hb5, hcase⟩
    have HB5 := Lib.hid (below_next HB4.out hb5)
    have hfe : e = .returned (.int .i64 k) := by
      rcases hcase with ⟨ho, _⟩ | ⟨j, hj, h1, h2, h⟩
      · exfalso
        rcases ho with h | h
        · rcases Nat.eq_zero_or_pos k with h0 | h0
          · subst h0; omega
          · have := HW.out.bnd_mono 0 k h0 (Nat.le_of_lt hk); omega
        · rcases Nat.lt_or_eq_of_le (show k + 1 ≤ p.funcs.length from hk) with h' | h'
          · have := HW.out.bnd_mono _ _ h' (Nat.le_refl _); omega
          · rw [h'] at hk2; omega
      · obtain rfl := bnd_unique HW.out hk hj hk1 hk2 h1 h2
        exact h
    subst hfe
    have hn1 := (hb5.cell (p := ⟨b, off + k * 5, none⟩) hb4l).trans hn0
    have hb5l : b < w5.heap.size := Nat.lt_of_lt_of_le hb4l hb5.size
    clear hb5 e0 e1 e2 e3 e4 e5 HF hcase hn0 hk1 hk2
    have hbX := HBX.out.keep HB5.out hlX
    have hlX5 := hbX.lt
    have e0 := hbX.c0
    have e1 := hbX.c1
    have e2 := hbX.c2
    have e3 := hbX.c3
    have e4 := hbX.c4
    have e5 := hbX.c5
    clear hbX
    have hq : (p.funcs[k].name.toList == p.funcs[k].name.toList) = true := by simp
    generalize p.funcs[k].name = nm at *
    go_wp2_with fail
    go_ret
    exact ⟨rfl, HB0.out.trans (HB5.out.mono HB0.out.size)⟩
end Go.Proofs.Ytoedlabfiialfaa
