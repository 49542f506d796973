/-
  The walks through the reference: which function a place lies in; the value of runs at a place.
-/
import Derived.Test.YtoedlabfiialfaaGreatBnd
import Derived.Test.YtoedlabfiialfaaGreatVal
namespace Go.Proofs.YtoedlabfiialfaaGreat
open Go.RowKit

set_option maxRecDepth 100000 in
set_option maxHeartbeats 2000000 in
theorem find_any (FA SA : Option Addr) (fc sc : Nat) (p : Pg) (pl : Nat) (B : Nat) (w : World) (H : PgOk w B FA SA fc sc p) (HW : WellP p) :
    Calls Tryz.prog 12 #[pgv FA SA fc sc p, .int .u64 pl] w fun e w' => Below w.heap.size w w' ∧
      (((pl < bndN p 0 ∨ bndN p p.funcs.length ≤ pl) ∧ e = .returned (.int .i64 (-1))) ∨ ∃ k, k < p.funcs.length ∧ bndN p k ≤ pl ∧ pl < bndN p (k + 1) ∧ e = .returned (.int .i64 k)) := by
  have hb0 := below_new w (.cells #[.int .u64 p.start, .slice FA p.funcs.length fc, .slice SA p.files.length sc, .bool p.big, .bool p.wide, .int .i64 p.quantum] 26)
  have HH := H.keep (hb0.mono H.bd)
  have hbx := pbox_new w FA SA fc sc p 26
  have hfl := HW.head.fl
  have HWH := Lib.hid HW
  have e0 := hbx.c0
  have e1 := hbx.c1
  have e2 := hbx.c2
  have e3 := hbx.c3
  have e4 := hbx.c4
  have e5 := hbx.c5
  have hlt0 := hbx.lt
  have hbd := H.bd
  have HB0 := Lib.hid hb0
  clear HW hb0
  go_enter Tryz.func12, Tryz.ntmps12
  go_wp2_with fail
  generalize (w.alloc (.cells #[.int .u64 p.start, .slice FA p.funcs.length fc, .slice SA p.files.length sc, .bool p.big, .bool p.wide, .int .i64 p.quantum] 26)) = W0 at *
  go_loopw [11] (fun m wr => ∃ k : Nat, k ≤ p.funcs.length ∧ m = .int .i64 k ∧ Hid (pl < bndN p 0 ∨ bndN p k ≤ pl) ∧ Below W0.heap.size W0 wr) (fun m _ => p.funcs.length - (intOf m).toNat)
  case atStart => exact ⟨0, Nat.zero_le _, rfl, Lib.hid (Nat.lt_or_ge _ _), Below.refl _ _⟩
  case round =>
    obtain ⟨k, hk, rfl, I, hb⟩ := hrel
    have HB := Lib.hid hb
    have hc := (bcell hb).1
    have hzr := hb.size
    clear hb
    by_cases hlt : k < p.funcs.length
    · have HC := bounds_any FA SA fc sc p k B wr (HH.keep (HB.out.mono HH.bd)) hlt
      rw [bndW_eq HWH.out k hk, bndW_eq HWH.out (k + 1) hlt] at HC
      obtain ⟨x, hx⟩ : ∃ x, bndN p k = x := ⟨_, rfl⟩
      obtain ⟨y, hy⟩ : ∃ y, bndN p (k + 1) = y := ⟨_, rfl⟩
      rw [hx, hy] at HC
      have HX := Lib.hid hx
      have HY := Lib.hid hy
      have HCC := Lib.hid HC
      clear hx hy HC
      rcases Nat.lt_or_ge pl x with h1 | h1
      · have hd1 : decide ((x : Int) ≤ (pl : Int)) = false := by simp; omega
        have hn1 : decide (x ≤ pl) = false := by simp; omega
        have HI := Lib.hid h1
        clear h1
        go_wp2_with fail
        refine Calls.mono HCC.out ?_
        rintro e w1 ⟨rfl, hb1⟩
        have HB1 := Lib.hid hb1
        clear hb1
        go_wp2_with fail
        refine ⟨⟨k + 1, hlt, by go_num, Lib.hid ?_, below_next HB.out HB1.out⟩, by simp [intOf]; omega⟩
        rcases I.out with h | h
        · exact .inl h
        · have := HX.out; have := HI.out; omega
      · have hd1 : decide ((x : Int) ≤ (pl : Int)) = true := by simp; omega
        have hn1 : decide (x ≤ pl) = true := by simp; omega
        have HI := Lib.hid h1
        clear h1
        rcases Nat.lt_or_ge pl y with h2 | h2
        · have hd2 : decide ((pl : Int) < (y : Int)) = true := by simp; omega
          have hn2 : decide (pl < y) = true := by simp; omega
          have HI2 := Lib.hid h2
          clear h2
          go_wp2_with fail
          refine Calls.mono HCC.out ?_
          rintro e w1 ⟨rfl, hb1⟩
          have HB1 := Lib.hid hb1
          clear hb1
          go_wp2_with fail
          go_ret
          exact ⟨HB0.out.trans ((below_next HB.out HB1.out).mono HB0.out.size), .inr ⟨k, hlt, by rw [HX.out]; exact HI.out, by rw [HY.out]; exact HI2.out, rfl⟩⟩
        · have hd2 : decide ((pl : Int) < (y : Int)) = false := by simp; omega
          have hn2 : decide (pl < y) = false := by simp; omega
          have HI2 := Lib.hid h2
          clear h2
          go_wp2_with fail
          refine Calls.mono HCC.out ?_
          rintro e w1 ⟨rfl, hb1⟩
          have HB1 := Lib.hid hb1
          clear hb1
          go_wp2_with fail
          exact ⟨⟨k + 1, hlt, by go_num, Lib.hid (.inr (by rw [HY.out]; exact HI2.out)), below_next HB.out HB1.out⟩, by simp [intOf]; omega⟩
    · obtain rfl : k = p.funcs.length := by omega
      go_wp2_with fail
      go_ret
      exact ⟨HB0.out.trans (HB.out.mono HB0.out.size), .inl ⟨I.out, rfl⟩⟩

set_option maxRecDepth 100000 in
set_option maxHeartbeats 2000000 in
theorem value_any (FA SA : Option Addr) (fc sc : Nat) (p : Pg) (A : Option Addr) (c n : Nat) (l : List Run) (most : Int) (B : Nat) (w : World) (H : RunOk w B A l) (hB : B ≤ w.heap.size) (hg : RunsGood l most) (hq : p.quantum = 1 ∨ p.quantum = 2 ∨ p.quantum = 4) (hn : n < 18446744073709551616) :
    Calls Tryz.prog 36 #[pgv FA SA fc sc p, .slice A l.length c, .int .u64 n] w fun e w' => e = .returned (.int .i32 (valN p.quantum.toNat l n)) ∧ Below w.heap.size w w' := by
  have hb0 := below_new w (.cells #[.int .u64 p.start, .slice FA p.funcs.length fc, .slice SA p.files.length sc, .bool p.big, .bool p.wide, .int .i64 p.quantum] 26)
  have HH := H.keep (hb0.mono hB)
  have hbx := pbox_new w FA SA fc sc p 26
  have hl := hg.le
  have e5' := hbx.c5
  have hlt0 := hbx.lt
  obtain ⟨qm, hqm⟩ : ∃ qm : Nat, p.quantum = (qm : Int) := ⟨p.quantum.toNat, by omega⟩
  have hqt : p.quantum.toNat = qm := by omega
  have hq4 : 1 ≤ qm ∧ qm ≤ 4 := by omega
  rw [hqt]
  have e5 : _ = some (Value.int .i64 (qm : Int)) := e5'.trans (congrArg (fun z : Int => some (Value.int .i64 z)) hqm)
  clear e5' hqt hq
  have HB0 := Lib.hid hb0
  have HG := Lib.hid hg
  have HHH := Lib.hid HH
  clear hb0 hg HH hqm
  have hB0 : B ≤ (w.alloc (.cells #[.int .u64 p.start, .slice FA p.funcs.length fc, .slice SA p.files.length sc, .bool p.big, .bool p.wide, .int .i64 p.quantum] 26)).heap.size := by simp; omega
  go_enter Tryz.func36, Tryz.ntmps36
  go_wp2_with fail
  generalize (w.alloc (.cells #[.int .u64 p.start, .slice FA p.funcs.length fc, .slice SA p.files.length sc, .bool p.big, .bool p.wide, .int .i64 p.quantum] 26)) = W0 at *
  go_loopw [2, 12] (fun m i wr => ∃ k n' : Nat, k ≤ l.length ∧ i = .int .i64 k ∧ m = .int .u64 n' ∧ n' < 18446744073709551616 ∧ Hid (valN qm (l.drop k) n' = valN qm l n) ∧ Below W0.heap.size W0 wr) (fun _ i _ => l.length - (intOf i).toNat)
  case atStart => exact ⟨0, n, Nat.zero_le _, rfl, rfl, hn, Lib.hid rfl, Below.refl _ _⟩
  case round =>
    obtain ⟨k, n', hk, rfl, rfl, hn', I, hb⟩ := hrel
    have HB := Lib.hid hb
    have hc := (bcell hb).1
    have hzr := hb.size
    have g5 := (hc _ 5 hlt0).trans e5
    have hwr : w.heap.size < wr.heap.size := Nat.lt_of_lt_of_le hlt0 hzr
    clear hb
    by_cases hlt : k < l.length
    · obtain ⟨b, off, rfl, hbB, h1, h2⟩ := (HHH.out.keep (HB.out.mono hB0)).sl k hlt
      have hqb := (HG.out.each k hlt).q2
      have hvb := (HG.out.each k hlt).v2
      have hvb1 := (HG.out.each k hlt).v1
      have hvv := HHH.out.v k hlt
      have I2 : Hid (valN qm l n = if n' < l[k].q * qm then l[k].v else valN qm (l.drop (k + 1)) (n' - l[k].q * qm)) := Lib.hid (by rw [← I.out, List.drop_eq_getElem_cons hlt]; rfl)
      generalize l[k] = r at *
      obtain ⟨z, hz⟩ : ∃ z, r.q * qm = z := ⟨_, rfl⟩
      have hzm : z ≤ 262144 := by rw [← hz]; calc r.q * qm ≤ 65536 * 4 := Nat.mul_le_mul hqb hq4.2
        _ = 262144 := by decide
      have hm : IntKind.u64.wrap ((r.q : Int) * (qm : Int)) = (z : Int) := by rw [IntKind.wrap_u64, show (r.q : Int) * (qm : Int) = (z : Int) by rw [← hz]; push_cast; rfl]; omega
      have hm2 : (r.q : Int) * (qm : Int) = (z : Int) := by rw [← hz]; push_cast; rfl
      rw [hz] at I2
      have hqw : (r.q : Int) % 18446744073709551616 = (r.q : Int) := by omega
      clear hz
      rcases Nat.lt_or_ge n' z with h3 | h3
      · have hd : decide ((n' : Int) < (z : Int)) = true := by simp; omega
        have hdn : decide (n' < z) = true := by simp; omega
        go_wp2_with fail
        go_ret
        refine ⟨?_, ?_⟩
        · rw [I2.out, if_pos h3]
          rfl
        · exact HB0.out.trans ((HB.out.alloc hzr _).mono HB0.out.size)
      · have hd : decide ((n' : Int) < (z : Int)) = false := by simp; omega
        have hdn : decide (n' < z) = false := by simp; omega
        go_wp2_with fail
        refine ⟨⟨k + 1, n' - z, hlt, by go_num, ?_, by omega, Lib.hid ?_, HB.out.alloc hzr _⟩, by simp [intOf]; omega⟩
        · exact congrArg (Value.int .u64) (by omega)
        · rw [I2.out, if_neg (by omega)]
    · obtain rfl : k = l.length := by omega
      go_wp2_with fail
      go_ret
      refine ⟨?_, HB0.out.trans (HB.out.mono HB0.out.size)⟩
      rw [← I.out, List.drop_length]
      rfl
end Go.Proofs.YtoedlabfiialfaaGreat
