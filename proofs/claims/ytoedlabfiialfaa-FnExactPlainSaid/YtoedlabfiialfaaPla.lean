/-
  The walk through the thin package's Plain.
-/
import Derived.Test.YtoedlabfiialfaaNlt
namespace Go.Proofs.Ytoedlabfiialfaa
open Go.RowKit

set_option maxRecDepth 100000 in
set_option maxHeartbeats 1000000 in
theorem plain_any (g n cap pc : Nat) (p : Pg) (w : World) (HW : WellP p) (hm : Mem w g 0 (bytesB p)) (hn : n = (bytesB p).length) (hc : n ≤ cap) (_ : cap ≤ maxLen) (hpc : pc < 18446744073709551616) :
    Calls Try.prog 10 #[.slice (some ⟨g, 0, none⟩) n cap, .int .u64 pc] w fun e w' => LineIs p pc e ∧ Below w.heap.size w w' := by
  subst hn
  have hll := HW.len_le
  have HWH := Lib.hid HW
  have HM := Lib.hid hm
  clear HW hm
  go_enter Try.func10, Try.ntmps10
  have hg : g < w.heap.size := World.block_lt_of_cell? w _ (HM.out 0 (by omega))
  have HC := Lib.hid (HM.out.keep hg ((Below.refl _ _).alloc (Nat.le_refl _) (.cells #[] 5))).map
  have HO := Lib.hid (own_empty w)
  have HA := Lib.hid ((Below.refl w.heap.size w).alloc (Nat.le_refl _) (.cells #[] 5))
  have hll1 := hll.1
  go_wp2_with (first | (at_builtin; with_reducible refine app_bytes _ rfl (.tmp 5) (.tmp 6) rfl w.heap.size (.slice (some ⟨w.heap.size, 0, none⟩) 0 0) [] rfl HO.out ⟨g, 0, none⟩ _ cap (bytesB p) rfl rfl HC.out (by simp; omega) (by simp) ?_; intro v1 w1 hown1 _ hb1 _))
  obtain ⟨g1, c1, rfl, hg1, hg1l, hc1, cm1, hm1⟩ := OwnV.bytes hown1 (by simp; omega)
  simp only [List.nil_append] at *
  have HM1 := Lib.hid hm1
  have HB1 := Lib.hid hb1
  clear hown1 hb1 hm1 HC HO HM
  refine Calls.mono (newLineTable_any _ c1 g1 w1) ?_
  rintro e w2 ⟨rfl, hw2⟩
  have hr := nlt_row w1 (bytesV g1 c1 p)
  have hb2 := nlt_below w1 (bytesV g1 c1 p)
  have hw2' : w2 = nltW w1 (bytesV g1 c1 p) := hw2
  rw [← hw2'] at hr hb2
  have HM2 := Lib.hid (HM1.out.keep hg1l hb2)
  have HR := Lib.hid hr
  have HB2 := Lib.hid hb2
  clear hw2 hw2' hr hb2
  go_wp2_with fail
  refine Calls.mono (ltPCToLine_any (w1.heap.size + 2) g1 c1 pc _ _ p w2 HWH.out HR.out HM2.out (by omega) hc1 cm1 hpc) ?_
  rintro e w3 ⟨hli, hfr⟩
  obtain ⟨z, rfl⟩ := hli.int
  have HLI := Lib.hid hli
  have HF := Lib.hid hfr
  clear hli hfr
  go_wp2_with fail
  go_ret
  refine ⟨HLI.out, ?_⟩
  have h1 := HA.out.trans HB1.out
  have h2 := HB2.out
  have h3 := HF.out
  have h4 : Below w.heap.size w w2 := h1.trans (h2.mono h1.size)
  exact h4.trans (h3.below h4.size (fun k hk e => by have := h1.size; omega))
end Go.Proofs.Ytoedlabfiialfaa
