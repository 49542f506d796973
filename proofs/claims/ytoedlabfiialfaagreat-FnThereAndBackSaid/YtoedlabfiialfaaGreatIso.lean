/-
  The walks through isGo12 and the line table's own PCToLine.
-/
import Derived.Test.YtoedlabfiialfaaGreatPp
import Derived.Test.YtoedlabfiialfaaGreatGp
namespace Go.Proofs.YtoedlabfiialfaaGreat
open Go.RowKit

set_option maxRecDepth 100000 in
set_option maxHeartbeats 1000000 in
theorem isGo12_any (lt db c : Nat) (m1 m2 : Value) (p : Pg) (w : World) (HW : WellP p) (hr : w.heap[lt]? = some (.cells (row0 (bytesV db c p) m1 m2) 137 (0, 0))) (hm : Mem w db 0 (bytesB p)) (hnd : db ≠ lt)
    (hc : (bytesB p).length ≤ c) (cm : c ≤ maxLen) :
    Calls Tryz.prog 57 #[.pointer (some ⟨lt, 0, none⟩)] w fun e w' => e = .returned (.bool true) ∧ Fr (fun k => k = lt) w w' ∧
      w'.heap[lt]? = some (.cells (rowE db c p 0 m1 m2 (.map none)) 137 (0, 0)) := by
  have HC := Lib.hid (parse_any lt db c m1 m2 p w HW hr hm hnd hc cm)
  clear HW hr hm hnd hc cm
  go_enter Tryz.func57, Tryz.ntmps57
  go_wp2_with fail
  refine Calls.mono HC.out ?_
  rintro e w1 ⟨rfl, hfr, hr1⟩
  have c5 : w1.cell? ⟨lt, 5, none⟩ = some (.int .i64 2) := cell_of_row w1 _ 5 _ _ _ hr1
  have hlt : lt < w1.heap.size := World.block_lt_of_cell? w1 ⟨lt, 5, none⟩ c5
  have HF := Lib.hid (And.intro hfr hr1)
  clear hfr hr1
  go_wp2_with fail
  go_ret
  exact ⟨rfl, HF.out.1, HF.out.2⟩

/-- what is told of the line of a place -/
def LineIs (p : Pg) (pc : Nat) (e : Ending) : Prop :=
  ((pc < bndN p 0 ∨ bndN p p.funcs.length ≤ pc) ∧ e = .returned (.int .i64 (-1))) ∨
    ∃ k, ∃ hk : k < p.funcs.length, bndN p k ≤ pc ∧ pc < bndN p (k + 1) ∧ e = .returned (.int .i64 (valN p.quantum.toNat p.funcs[k].lines (pc - bndN p k)))
theorem LineIs.int {p : Pg} {pc : Nat} {e : Ending} (h : LineIs p pc e) : ∃ z, e = .returned (.int .i64 z) := by
  rcases h with ⟨_, h⟩ | ⟨_, _, _, _, h⟩
  · exact ⟨_, h⟩
  · exact ⟨_, h⟩

set_option maxRecDepth 100000 in
set_option maxHeartbeats 1000000 in
theorem ltPCToLine_any (lt db c pc : Nat) (m1 m2 : Value) (p : Pg) (w : World) (HW : WellP p) (hr : w.heap[lt]? = some (.cells (row0 (bytesV db c p) m1 m2) 137 (0, 0))) (hm : Mem w db 0 (bytesB p)) (hnd : db ≠ lt)
    (hc : (bytesB p).length ≤ c) (cm : c ≤ maxLen) (hpc : pc < 18446744073709551616) :
    Calls Tryz.prog 49 #[.pointer (some ⟨lt, 0, none⟩), .int .u64 pc] w fun e w' => LineIs p pc e ∧ Fr (fun k => k = lt) w w' := by
  have HC := Lib.hid (isGo12_any lt db c m1 m2 p w HW hr hm hnd hc cm)
  have HX := Lib.hid (And.intro HW (And.intro hm (And.intro hnd (And.intro hc cm))))
  clear HW hr hm hnd hc cm
  go_enter Tryz.func49, Tryz.ntmps49
  go_wp2_with fail
  refine Calls.mono HC.out ?_
  rintro e w1 ⟨rfl, hfr, hr1⟩
  have HF := Lib.hid hfr
  have HL : LtOk w1 lt db c p := LtOk.of_row HX.out.1 hr1 (HX.out.2.1.fr hfr HX.out.2.2.1) HX.out.2.2.2.1 HX.out.2.2.2.2
  have HLL := Lib.hid HL
  clear hfr hr1 HL HC
  go_wp2_with fail
  refine Calls.mono (go12PCToLine_any lt db c pc p w1 HLL.out hpc) ?_
  rintro e w2 ⟨hb2, hl⟩
  have hli : LineIs p pc e := hl
  clear hl
  obtain ⟨z, rfl⟩ := hli.int
  have HLI := Lib.hid hli
  have HB := Lib.hid hb2
  clear hli hb2
  go_wp2_with fail
  go_ret
  exact ⟨HLI.out, HF.out.trans (Fr.of_below HB.out)⟩
end Go.Proofs.YtoedlabfiialfaaGreat
