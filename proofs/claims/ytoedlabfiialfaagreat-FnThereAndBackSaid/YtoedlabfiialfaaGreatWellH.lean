/-
  The walk through the test whether a program is well.
-/
import Derived.Test.YtoedlabfiialfaaGreatFits
namespace Go.Proofs.YtoedlabfiialfaaGreat
open Go.RowKit

/-- the box of a program -/
structure PBox (w : World) (g : Nat) (FA SA : Option Addr) (fc sc : Nat) (p : Pg) : Prop where
  lt : g < w.heap.size
  c0 : w.cell? ⟨g, 0, none⟩ = some (.int .u64 p.start)
  c1 : w.cell? ⟨g, 1, none⟩ = some (.slice FA p.funcs.length fc)
  c2 : w.cell? ⟨g, 2, none⟩ = some (.slice SA p.files.length sc)
  c3 : w.cell? ⟨g, 3, none⟩ = some (.bool p.big)
  c4 : w.cell? ⟨g, 4, none⟩ = some (.bool p.wide)
  c5 : w.cell? ⟨g, 5, none⟩ = some (.int .i64 p.quantum)
theorem PBox.keep {w w' : World} {g B : Nat} {FA SA : Option Addr} {fc sc : Nat} {p : Pg} (h : PBox w g FA SA fc sc p) (hb : Below B w w') (hg : g < B) : PBox w' g FA SA fc sc p :=
  ⟨Nat.lt_of_lt_of_le h.lt hb.size, (hb.cell (p := ⟨g, 0, none⟩) hg).trans h.c0, (hb.cell (p := ⟨g, 1, none⟩) hg).trans h.c1, (hb.cell (p := ⟨g, 2, none⟩) hg).trans h.c2,
    (hb.cell (p := ⟨g, 3, none⟩) hg).trans h.c3, (hb.cell (p := ⟨g, 4, none⟩) hg).trans h.c4, (hb.cell (p := ⟨g, 5, none⟩) hg).trans h.c5⟩
theorem pbox_new (w : World) (FA SA : Option Addr) (fc sc : Nat) (p : Pg) (t : TypeId) : PBox (w.alloc (.cells #[.int .u64 p.start, .slice FA p.funcs.length fc, .slice SA p.files.length sc, .bool p.big, .bool p.wide, .int .i64 p.quantum] t)) w.heap.size FA SA fc sc p :=
  ⟨by simp, by simp [cell_of_row _ _ 0 _ _ _ (heap_alloc_new w _)], by simp [cell_of_row _ _ 1 _ _ _ (heap_alloc_new w _)], by simp [cell_of_row _ _ 2 _ _ _ (heap_alloc_new w _)],
    by simp [cell_of_row _ _ 3 _ _ _ (heap_alloc_new w _)], by simp [cell_of_row _ _ 4 _ _ _ (heap_alloc_new w _)], by simp [cell_of_row _ _ 5 _ _ _ (heap_alloc_new w _)]⟩
theorem below_new (w : World) (o : Obj) : Below w.heap.size w (w.alloc o) := (Below.refl _ _).alloc (Nat.le_refl _) o

set_option maxHeartbeats 1000000 in
/-- a program whose head is not well -/
theorem well_headless (FA SA : Option Addr) (fc sc : Nat) (p : Pg) (B : Nat) (w : World) (H : PgOk w B FA SA fc sc p) (hno : ¬ WellHead p) :
    Calls Tryz.prog 9 #[pgv FA SA fc sc p] w fun e w' => e = .returned (.bool false) ∧ Below w.heap.size w w' := by
  have hb0 := fun o => below_new w o
  have HB := Lib.hid hb0
  have HNO := Lib.hid hno
  have hfl := H.fl
  have hsl := H.sl
  have hst := H.start
  have hqm := H.quantum
  unfold maxLen at hfl hsl
  clear hb0 hno
  obtain ⟨st, fs, ss, bg, wd, qm⟩ := p
  simp only at *
  by_cases hq : qm = 1 ∨ qm = 2 ∨ qm = 4
  rotate_left
  · have d1 : (qm != 1) = true := by rw [bne_iff_ne]; omega
    have d2 : (qm != 2) = true := by rw [bne_iff_ne]; omega
    have d4 : (qm != 4) = true := by rw [bne_iff_ne]; omega
    clear hq
    go_enter Tryz.func9, Tryz.ntmps9
    go_wp2_with fail
    go_ret
    exact ⟨rfl, HB.out _⟩
  rcases hq with rfl | rfl | rfl
  · by_cases a1 : st = 0
    · have b1 : ((st : Int) == 0) = true := by rw [beq_iff_eq]; omega
      clear a1
      go_enter Tryz.func9, Tryz.ntmps9
      go_wp2_with fail
      go_ret
      exact ⟨rfl, HB.out _⟩
    have b1 : ((st : Int) == 0) = false := by rw [beq_eq_false_iff_ne]; omega
    by_cases a2 : 16777216 < st
    · go_enter Tryz.func9, Tryz.ntmps9
      go_wp2_with fail
      go_ret
      exact ⟨rfl, HB.out _⟩
    have A4 : Hid ((st : Int) % 1 = 0) := Lib.hid (by omega)
    by_cases a3 : fs.length = 0
    · have b3 : ((fs.length : Int) == 0) = true := by rw [beq_iff_eq]; omega
      clear a3
      go_enter Tryz.func9, Tryz.ntmps9
      go_wp2_with fail
      go_ret
      exact ⟨rfl, HB.out _⟩
    have b3 : ((fs.length : Int) == 0) = false := by rw [beq_eq_false_iff_ne]; omega
    by_cases a5 : 100 < fs.length
    · go_enter Tryz.func9, Tryz.ntmps9
      go_wp2_with fail
      go_ret
      exact ⟨rfl, HB.out _⟩
    by_cases a6 : 100 < ss.length
    · go_enter Tryz.func9, Tryz.ntmps9
      go_wp2_with fail
      go_ret
      exact ⟨rfl, HB.out _⟩
    exact absurd ⟨by simp, a1, by simp only; omega, A4.out, by simp only; omega, by simp only; omega, by simp only; omega⟩ HNO.out
  · by_cases a1 : st = 0
    · have b1 : ((st : Int) == 0) = true := by rw [beq_iff_eq]; omega
      clear a1
      go_enter Tryz.func9, Tryz.ntmps9
      go_wp2_with fail
      go_ret
      exact ⟨rfl, HB.out _⟩
    have b1 : ((st : Int) == 0) = false := by rw [beq_eq_false_iff_ne]; omega
    by_cases a2 : 16777216 < st
    · go_enter Tryz.func9, Tryz.ntmps9
      go_wp2_with fail
      go_ret
      exact ⟨rfl, HB.out _⟩
    by_cases a4 : (st : Int) % 2 = 0
    rotate_left
    · have b4 : ((st : Int) % 2 != 0) = true := by rw [bne_iff_ne]; exact a4
      clear a4
      go_enter Tryz.func9, Tryz.ntmps9
      go_wp2_with fail
      go_ret
      exact ⟨rfl, HB.out _⟩
    have b4 : ((st : Int) % 2 != 0) = false := by rw [bne_eq_false_iff_eq]; exact a4
    have A4 := Lib.hid a4
    clear a4
    by_cases a3 : fs.length = 0
    · have b3 : ((fs.length : Int) == 0) = true := by rw [beq_iff_eq]; omega
      clear a3
      go_enter Tryz.func9, Tryz.ntmps9
      go_wp2_with fail
      go_ret
      exact ⟨rfl, HB.out _⟩
    have b3 : ((fs.length : Int) == 0) = false := by rw [beq_eq_false_iff_ne]; omega
    by_cases a5 : 100 < fs.length
    · go_enter Tryz.func9, Tryz.ntmps9
      go_wp2_with fail
      go_ret
      exact ⟨rfl, HB.out _⟩
    by_cases a6 : 100 < ss.length
    · go_enter Tryz.func9, Tryz.ntmps9
      go_wp2_with fail
      go_ret
      exact ⟨rfl, HB.out _⟩
    exact absurd ⟨by simp, a1, by simp only; omega, A4.out, by simp only; omega, by simp only; omega, by simp only; omega⟩ HNO.out
  · by_cases a1 : st = 0
    · have b1 : ((st : Int) == 0) = true := by rw [beq_iff_eq]; omega
      clear a1
      go_enter Tryz.func9, Tryz.ntmps9
      go_wp2_with fail
      go_ret
      exact ⟨rfl, HB.out _⟩
    have b1 : ((st : Int) == 0) = false := by rw [beq_eq_false_iff_ne]; omega
    by_cases a2 : 16777216 < st
    · go_enter Tryz.func9, Tryz.ntmps9
      go_wp2_with fail
      go_ret
      exact ⟨rfl, HB.out _⟩
    by_cases a4 : (st : Int) % 4 = 0
    rotate_left
    · have b4 : ((st : Int) % 4 != 0) = true := by rw [bne_iff_ne]; exact a4
      clear a4
      go_enter Tryz.func9, Tryz.ntmps9
      go_wp2_with fail
      go_ret
      exact ⟨rfl, HB.out _⟩
    have b4 : ((st : Int) % 4 != 0) = false := by rw [bne_eq_false_iff_eq]; exact a4
    have A4 := Lib.hid a4
    clear a4
    by_cases a3 : fs.length = 0
    · have b3 : ((fs.length : Int) == 0) = true := by rw [beq_iff_eq]; omega
      clear a3
      go_enter Tryz.func9, Tryz.ntmps9
      go_wp2_with fail
      go_ret
      exact ⟨rfl, HB.out _⟩
    have b3 : ((fs.length : Int) == 0) = false := by rw [beq_eq_false_iff_ne]; omega
    by_cases a5 : 100 < fs.length
    · go_enter Tryz.func9, Tryz.ntmps9
      go_wp2_with fail
      go_ret
      exact ⟨rfl, HB.out _⟩
    by_cases a6 : 100 < ss.length
    · go_enter Tryz.func9, Tryz.ntmps9
      go_wp2_with fail
      go_ret
      exact ⟨rfl, HB.out _⟩
    exact absurd ⟨by simp, a1, by simp only; omega, A4.out, by simp only; omega, by simp only; omega, by simp only; omega⟩ HNO.out
end Go.Proofs.YtoedlabfiialfaaGreat
