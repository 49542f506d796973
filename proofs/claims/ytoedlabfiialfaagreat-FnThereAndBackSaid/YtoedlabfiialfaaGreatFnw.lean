/-
  The walk through the reference's Find, for programs that need not be well.
-/
import Derived.Test.YtoedlabfiialfaaGreatSgl
namespace Go.Proofs.YtoedlabfiialfaaGreat
open Go.RowKit

set_option maxRecDepth 100000 in
set_option maxHeartbeats 2000000 in
theorem findW_any (FA SA : Option Addr) (fc sc : Nat) (p : Pg) (pl : Nat) (B : Nat) (w : World) (H : PgOk w B FA SA fc sc p) :
    Calls Tryz.prog 12 #[pgv FA SA fc sc p, .int .u64 pl] w fun e w' => Below w.heap.size w w' ∧
      (e = .returned (.int .i64 (-1)) ∨ ∃ k, k < p.funcs.length ∧ bndW p k ≤ pl ∧ pl < bndW p (k + 1) ∧ e = .returned (.int .i64 k)) := by
  have hb0 := below_new w (.cells #[.int .u64 p.start, .slice FA p.funcs.length fc, .slice SA p.files.length sc, .bool p.big, .bool p.wide, .int .i64 p.quantum] 26)
  have HH := H.keep (hb0.mono H.bd)
  have hbx := pbox_new w FA SA fc sc p 26
  have hfl := H.fl
  unfold maxLen at hfl
  have e0 := hbx.c0
  have e1 := hbx.c1
  have e2 := hbx.c2
  have e3 := hbx.c3
  have e4 := hbx.c4
  have e5 := hbx.c5
  have hlt0 := hbx.lt
  have hbd := H.bd
  have HB0 := Lib.hid hb0
  clear hb0
  go_enter Tryz.func12, Tryz.ntmps12
  go_wp2_with fail
  generalize (w.alloc (.cells #[.int .u64 p.start, .slice FA p.funcs.length fc, .slice SA p.files.length sc, .bool p.big, .bool p.wide, .int .i64 p.quantum] 26)) = W0 at *
  go_loopw [11] (fun m wr => ∃ k : Nat, k ≤ p.funcs.length ∧ m = .int .i64 k ∧ Below W0.heap.size W0 wr) (fun m _ => p.funcs.length - (intOf m).toNat)
  case atStart => exact ⟨0, Nat.zero_le _, rfl, Below.refl _ _⟩
  case round =>
    obtain ⟨k, hk, rfl, hb⟩ := hrel
    have HB := Lib.hid hb
    have hc := (bcell hb).1
    have hzr := hb.size
    clear hb
    by_cases hlt : k < p.funcs.length
    · have HC := bounds_any FA SA fc sc p k B wr (HH.keep (HB.out.mono HH.bd)) hlt
      obtain ⟨x, hx⟩ : ∃ x, bndW p k = x := ⟨_, rfl⟩
      obtain ⟨y, hy⟩ : ∃ y, bndW p (k + 1) = y := ⟨_, rfl⟩
      rw [hx, hy] at HC
      have HX := Lib.hid hx
      have HY := Lib.hid hy
      have HCC := Lib.hid HC
      clear hx hy HC
      rcases Int.lt_or_le (pl : Int) x with h1 | h1
      · have hd1 : decide (x ≤ (pl : Int)) = false := by simp; omega
        clear h1
        go_wp2_with fail
        refine Calls.mono HCC.out ?_
        rintro e w1 ⟨rfl, hb1⟩
        have HB1 := Lib.hid hb1
        clear hb1
        go_wp2_with fail
        exact ⟨⟨k + 1, hlt, by go_num, below_next HB.out HB1.out⟩, by simp [intOf]; omega⟩
      · have hd1 : decide (x ≤ (pl : Int)) = true := by simp; omega
        have HI := Lib.hid h1
        clear h1
        rcases Int.lt_or_le (pl : Int) y with h2 | h2
        · have hd2 : decide ((pl : Int) < y) = true := by simp; omega
          have HI2 := Lib.hid h2
          clear h2
          go_wp2_with fail
          refine Calls.mono HCC.out ?_
          rintro e w1 ⟨rfl, hb1⟩
          have HB1 := Lib.hid hb1
          clear hb1
          go_wp2_with fail
          go_ret
          exact ⟨HB0.out.trans ((below_next HB.out HB1.out).mono HB0.out.size), .inr ⟨k, hlt, by rw [HX.out]; exact HI.out, by rw [HY.out]; exact HI2.out, rfl⟩⟩
        · have hd2 : decide ((pl : Int) < y) = false := by simp; omega
          clear h2
          go_wp2_with fail
          refine Calls.mono HCC.out ?_
          rintro e w1 ⟨rfl, hb1⟩
          have HB1 := Lib.hid hb1
          clear hb1
          go_wp2_with fail
          exact ⟨⟨k + 1, hlt, by go_num, below_next HB.out HB1.out⟩, by simp [intOf]; omega⟩
    · obtain rfl : k = p.funcs.length := by omega
      go_wp2_with fail
      go_ret
      exact ⟨HB0.out.trans (HB.out.mono HB0.out.size), .inl rfl⟩
end Go.Proofs.YtoedlabfiialfaaGreat
