/-
  The walk through the thin package's table: a table out of bytes.
-/
import Derived.Test.YtoedlabfiialfaaGreatPcf
import Derived.BigQuiet
namespace Go.Proofs.YtoedlabfiialfaaGreat
open Go.RowKit

/-- a table at tb that has been made behind block B -/
def Tbl (w : World) (B tb : Nat) (p : Pg) : Prop := ∃ base lt db c b1 b2 b3 bf fb sb, TbOk w base tb lt db c b1 b2 b3 bf fb sb p ∧ B ≤ lt ∧ B ≤ b1 ∧ B ≤ b2 ∧ B ≤ base

theorem Tbl.keep {w w' : World} {B tb : Nat} {p : Pg} (h : Tbl w B tb p) (hb : Below w.heap.size w w') : Tbl w' B tb p := by
  obtain ⟨base, lt, db, c, b1, b2, b3, bf, fb, sb, h, r⟩ := h
  exact ⟨base, lt, db, c, b1, b2, b3, bf, fb, sb, h.keep hb, r⟩

set_option maxRecDepth 100000 in
set_option maxHeartbeats 2000000 in
theorem table_any (g n cap : Nat) (p : Pg) (w : World) (HW : WellP p) (hm : Mem w g 0 (bytesB p)) (hn : n = (bytesB p).length) (hc : n ≤ cap) :
    Calls Tryz.prog 28 #[.slice (some ⟨g, 0, none⟩) n cap] w fun e w' => ∃ tb, e = .returned (.tuple #[.pointer (some ⟨tb, 0, none⟩), .bool true]) ∧ Tbl w' w.heap.size tb p ∧ Below w.heap.size w w' := by
  subst hn
  have hll := HW.len_le
  have HWH := Lib.hid HW
  have HM := Lib.hid hm
  clear HW hm
  go_enter Tryz.func28, Tryz.ntmps28
  have hg : g < w.heap.size := World.block_lt_of_cell? w _ (HM.out 0 (by omega))
  have HC := Lib.hid (HM.out.keep hg ((Below.refl _ _).alloc (Nat.le_refl _) (.cells #[] 5))).map
  have HO := Lib.hid (own_empty w)
  have HA := Lib.hid ((Below.refl w.heap.size w).alloc (Nat.le_refl _) (.cells #[] 5))
  have hll1 := hll.1
  go_wp2_with (first | (at_builtin; with_reducible refine app_bytes _ rfl (.tmp 7) (.tmp 8) rfl w.heap.size (.slice (some ⟨w.heap.size, 0, none⟩) 0 0) [] rfl HO.out ⟨g, 0, none⟩ _ cap (bytesB p) rfl rfl HC.out (by simp; omega) (by simp) ?_; intro v1 w1 hown1 _ hb1 _))
  obtain ⟨g1, c1, rfl, hg1, hg1l, hc1, cm1, hm1⟩ := OwnV.bytes hown1 (by simp; omega)
  simp only [List.nil_append] at *
  have HM1 := Lib.hid hm1
  have HB1 := Lib.hid (HA.out.trans hb1)
  clear hown1 hb1 hm1 HC HO HM HA
  refine Calls.mono (newLineTable_any _ c1 g1 w1) ?_
  rintro e w2 ⟨rfl, hw2⟩
  have hr := nlt_row w1 (bytesV g1 c1 p)
  have hb2 := nlt_below w1 (bytesV g1 c1 p)
  have hq1 := nlt_map1 k32 w1 (bytesV g1 c1 p)
  have hq2 := nlt_map2 k32 w1 (bytesV g1 c1 p)
  have hw2' : w2 = nltW w1 (bytesV g1 c1 p) := hw2
  rw [← hw2'] at hr hb2 hq1 hq2
  have HM2 := Lib.hid (HM1.out.keep hg1l hb2)
  have HR := Lib.hid (And.intro hr (And.intro hq1 hq2))
  have HB2 := Lib.hid hb2
  clear hw2 hw2' hr hb2 hq1 hq2
  go_wp2_with fail
  refine Calls.mono (newTable_any (w1.heap.size + 2) g1 c1 w1.heap.size (w1.heap.size + 1) p w2 HWH.out HR.out.1 HM2.out hc1 cm1 HR.out.2.1 HR.out.2.2 (by omega)) ?_
  rintro e w3 ⟨tb, b3, bf, fb, sb, rfl, hT, hfr⟩
  have HB3 : Hid (Below w.heap.size w w3 ∧ Tbl w3 w.heap.size tb p) := Lib.hid (by
    have h1 := HB1.out
    have h2 := HB2.out
    have s1 := h1.size
    have s2 := h2.size
    have h4 : Below w.heap.size w w2 := h1.trans (h2.mono s1)
    refine ⟨h4.trans (hfr.below h4.size (fun k hk e => by omega)), ⟨_, _, _, _, _, _, _, _, _, _, hT, by omega, s1, by omega, by omega⟩⟩)
  clear hfr hT
  go_wp2_with fail
  go_quiet (fail)
  go_wp2_with fail
  go_ret2
  exact ⟨tb, rfl, HB3.out.2.keep (below_drewN (Below.refl _ _) nq), below_drewN HB3.out.1 nq⟩
end Go.Proofs.YtoedlabfiialfaaGreat
