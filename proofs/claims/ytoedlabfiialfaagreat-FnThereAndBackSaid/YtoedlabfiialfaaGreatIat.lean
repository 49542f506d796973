/-
  The walks through the thin package's At and Find.
-/
import Derived.Test.YtoedlabfiialfaaGreatTab
namespace Go.Proofs.YtoedlabfiialfaaGreat
open Go.RowKit

/-- what is told of the function at a place -/
def AtIs (p : Pg) (pc : Nat) (e : Ending) : Prop :=
  ((pc < bndN p 0 ∨ bndN p p.funcs.length ≤ pc) ∧ e = .returned (.tuple #[.string ⟨#[]⟩, .bool false])) ∨
    ∃ k, ∃ hk : k < p.funcs.length, bndN p k ≤ pc ∧ pc < bndN p (k + 1) ∧ e = .returned (.tuple #[.string p.funcs[k].name, .bool true])
/-- what is told of a function by its name -/
def FindIs (p : Pg) (nm : ByteArray) (e : Ending) : Prop :=
  ((∀ j, ∀ h : j < p.funcs.length, p.funcs[j].name ≠ nm) ∧ e = .returned (.tuple #[.int .u64 0, .bool false])) ∨
    ∃ k, ∃ hk : k < p.funcs.length, p.funcs[k].name = nm ∧ (∀ j, ∀ h : j < p.funcs.length, j < k → p.funcs[j].name ≠ nm) ∧ e = .returned (.tuple #[.int .u64 (bndN p k), .bool true])

set_option maxRecDepth 100000 in
set_option maxHeartbeats 2000000 in
theorem implAt_any (g n cap pc : Nat) (p : Pg) (w : World) (HW : WellP p) (hm : Mem w g 0 (bytesB p)) (hn : n = (bytesB p).length) (hc : n ≤ cap) :
    Calls Tryz.prog 20 #[.slice (some ⟨g, 0, none⟩) n cap, .int .u64 pc] w fun e w' => AtIs p pc e ∧ Below w.heap.size w w' := by
  have HC := Lib.hid (table_any g n cap p w HW hm hn hc)
  have HWH := Lib.hid HW
  clear HW hm hn hc
  go_enter Tryz.func20, Tryz.ntmps20
  go_wp2_with fail
  refine Calls.mono HC.out ?_
  rintro e w1 ⟨tb, rfl, hT, hb1⟩
  obtain ⟨base, lt, db, c, b1, b2, b3, bf, fb, sb, hT, _⟩ := hT
  have HB1 := Lib.hid hb1
  have HP := Lib.hid (pcToFunc_any tb lt fb sb bf pc p w1 HWH.out hT.cells hT.rows)
  have HR := Lib.hid hT.rows
  clear hT hb1 HC
  go_wp2_with fail
  refine Calls.mono HP.out ?_
  rintro e w2 ⟨hw2, hcase⟩
  have hw2' := hw2.symm
  subst hw2'
  rcases hcase with ⟨hout, rfl⟩ | ⟨k, hk, hk1, hk2, rfl⟩
  · have HI : Hid (AtIs p pc (.returned (.tuple #[.string ⟨#[]⟩, .bool false]))) := Lib.hid (.inl ⟨hout, rfl⟩)
    clear hout HP
    go_wp2_with fail
    refine Calls.mono (name_nil _) ?_
    rintro e w3 ⟨rfl, hw3⟩
    have hw3' := hw3.symm
    subst hw3'
    go_wp2_with fail
    go_ret2
    exact ⟨HI.out, HB1.out⟩
  · have HI : Hid (AtIs p pc (.returned (.tuple #[.string p.funcs[k].name, .bool true]))) := Lib.hid (.inr ⟨k, hk, hk1, hk2, rfl⟩)
    have HN := Lib.hid (name_any fb sb k p w1 HR.out hk)
    clear hk1 hk2 HP
    generalize p.funcs[k].name = nm at *
    go_wp2_with fail
    refine Calls.mono HN.out ?_
    rintro e w3 ⟨rfl, hw3⟩
    have hw3' := hw3.symm
    subst hw3'
    go_wp2_with fail
    go_ret2
    exact ⟨HI.out, HB1.out⟩

set_option maxRecDepth 100000 in
set_option maxHeartbeats 2000000 in
theorem implFind_any (g n cap : Nat) (nm : ByteArray) (p : Pg) (w : World) (HW : WellP p) (hm : Mem w g 0 (bytesB p)) (hn : n = (bytesB p).length) (hc : n ≤ cap) (hnm : nm.size ≤ maxLen) :
    Calls Tryz.prog 21 #[.slice (some ⟨g, 0, none⟩) n cap, .string nm] w fun e w' => FindIs p nm e ∧ Below w.heap.size w w' := by
  have HC := Lib.hid (table_any g n cap p w HW hm hn hc)
  have HWH := Lib.hid HW
  clear HW hm hn hc
  go_enter Tryz.func21, Tryz.ntmps21
  go_wp2_with fail
  refine Calls.mono HC.out ?_
  rintro e w1 ⟨tb, rfl, hT, hb1⟩
  obtain ⟨base, lt, db, c, b1, b2, b3, bf, fb, sb, hT, _⟩ := hT
  have HB1 := Lib.hid hb1
  have HP := Lib.hid (lookupFunc_any tb lt fb sb bf nm p w1 HWH.out hT.cells hT.rows hnm)
  have HR := Lib.hid hT.rows
  clear hT hb1 HC
  go_wp2_with fail
  refine Calls.mono HP.out ?_
  rintro e w2 ⟨hw2, hcase⟩
  have hw2' := hw2.symm
  subst hw2'
  rcases hcase with ⟨hout, rfl⟩ | ⟨k, hk, hk1, hk2, rfl⟩
  · have HI : Hid (FindIs p nm (.returned (.tuple #[.int .u64 0, .bool false]))) := Lib.hid (.inl ⟨hout, rfl⟩)
    clear hout HP
    go_wp2_with fail
    go_ret2
    exact ⟨HI.out, HB1.out⟩
  · have HI : Hid (FindIs p nm (.returned (.tuple #[.int .u64 (bndN p k), .bool true]))) := Lib.hid (.inr ⟨k, hk, hk1, hk2, rfl⟩)
    have he := HR.out.e k hk
    have hlf := HR.out.lf
    clear hk1 hk2 HP
    go_wp2_with fail
    go_ret2
    exact ⟨HI.out, HB1.out⟩
end Go.Proofs.YtoedlabfiialfaaGreat
