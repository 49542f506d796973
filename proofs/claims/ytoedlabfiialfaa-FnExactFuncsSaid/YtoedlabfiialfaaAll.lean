/-
  The walk through All: the functions as the reference tells them.
-/
import Derived.Test.YtoedlabfiialfaaIfu
import Derived.Test.YtoedlabfiialfaaSp
namespace Go.Proofs.Ytoedlabfiialfaa
open Go.RowKit

set_option maxRecDepth 100000 in
set_option maxHeartbeats 2000000 in
theorem all_any (FA SA : Option Addr) (fc sc : Nat) (p : Pg) (B : Nat) (w : World) (H : PgOk w B FA SA fc sc p) (HW : WellP p) :
    Calls Try.prog 17 #[pgv FA SA fc sc p] w fun e w' => ∃ v, e = .returned v ∧ OwnF w' w.heap.size v p.funcs.length (fL p p.funcs.length) ∧ Below w.heap.size w w' := by
  have hb0 := below_new w (.cells #[.int .u64 p.start, .slice FA p.funcs.length fc, .slice SA p.files.length sc, .bool p.big, .bool p.wide, .int .i64 p.quantum] 26)
  have HH := Lib.hid (H.keep (hb0.mono H.bd))
  have HB0 := Lib.hid hb0
  have HBX := Lib.hid (pbox_new w FA SA fc sc p 26)
  have hfl := HW.head.fl
  have HWH := Lib.hid HW
  clear hb0 H HW
  go_enter Try.func17, Try.ntmps17
  have e0 := HBX.out.c0
  have e1 := HBX.out.c1
  have e2 := HBX.out.c2
  have e3 := HBX.out.c3
  have e4 := HBX.out.c4
  have e5 := HBX.out.c5
  go_wp2_with fail
  generalize (w.alloc (.cells #[.int .u64 p.start, .slice FA p.funcs.length fc, .slice SA p.files.length sc, .bool p.big, .bool p.wide, .int .i64 p.quantum] 26)) = W0 at *
  have hlX := HBX.out.lt
  clear e0 e1 e2 e3 e4 e5
  go_loopw [3, 11] (fun v i wr => ∃ k : Nat, k ≤ p.funcs.length ∧ i = .int .i64 k ∧ OwnF wr W0.heap.size v k (fL p k) ∧ Below W0.heap.size W0 wr) (fun _ i _ => p.funcs.length - (intOf i).toNat)
  case atStart => exact ⟨0, Nat.zero_le _, rfl, World.ownsRow_nil _ _ _ _, Below.refl _ _⟩
  case round =>
    obtain ⟨k, hk, rfl, hown, hb⟩ := hrel
    have HO := Lib.hid hown
    have HB := Lib.hid hb
    have hzr := hb.size
    by_cases hlt : k < p.funcs.length
    · obtain ⟨b, off, rfl, hf⟩ := ((HH.out.fn).keep (hb.mono HH.out.bd)) k hlt
      have c0 := hf.name
      have c1 := hf.frame
      obtain ⟨LA, lc, c2, r2⟩ := hf.lines
      obtain ⟨QA, qc, c3, r3⟩ := hf.files
      have c4 := hf.free
      have hbl : b < wr.heap.size := Nat.lt_of_lt_of_le (Nat.lt_of_lt_of_le hf.lt HH.out.bd) hzr
      have hsz := hf.szf
      have hwr : IntKind.i64.wrap p.funcs[k].frame = p.funcs[k].frame := by rw [IntKind.wrap_i64]; omega
      have hgd : p.funcs.getD k default = p.funcs[k] := by rw [List.getD_eq_getElem?_getD, List.getElem?_eq_getElem hlt]; rfl
      have HFC : Hid (fL p (k + 1) = fL p k ++ [.string p.funcs[k].name, .int .u64 (bndN p k), .int .u64 (bndN p (k + 1)), .int .i64 p.funcs[k].frame]) := Lib.hid (by rw [← hgd]; rfl)
      have hbX := HBX.out.keep HB.out hlX
      have hlXr := hbX.lt
      have x0 := hbX.c0
      have x1 := hbX.c1
      have x2 := hbX.c2
      have x3 := hbX.c3
      have x4 := hbX.c4
      have x5 := hbX.c5
      have HC : Hid (∀ o, Calls Try.prog 14 #[pgv (some ⟨b, off, none⟩) SA fc sc p, .int .i64 k] (wr.alloc o) fun e w' => e = .returned (.tuple #[.int .u64 (bndN p k), .int .u64 (bndN p (k + 1))]) ∧ Below (wr.alloc o).heap.size (wr.alloc o) w') := Lib.hid (fun o => by
        have := bounds_any (some ⟨b, off, none⟩) SA fc sc p k B (wr.alloc o) (HH.out.keep ((HB.out.alloc hzr o).mono HH.out.bd)) hlt
        rwa [bndW_eq HWH.out k (Nat.le_of_lt hlt), bndW_eq HWH.out (k + 1) hlt] at this)
      clear hbX r2 r3 hf hgd
      generalize p.funcs[k] = f at *
      generalize bndN p k = x at *
      generalize bndN p (k + 1) = y at *
      go_wp2_with fail
      refine Calls.mono (HC.out _) ?_
      rintro e w6 ⟨rfl, hb6⟩
      have HB6 := Lib.hid hb6
      clear hb6 HC
      generalize hX : wr.alloc _ = X at *
      have hXb : Below wr.heap.size wr X := by rw [← hX]; exact (Below.refl _ _).alloc (Nat.le_refl _) _
      have y0 : X.cell? ⟨wr.heap.size, 0, none⟩ = some (.string f.name) := by rw [← hX]; simp
      have y1 : X.cell? ⟨wr.heap.size, 1, none⟩ = some (.int .i32 f.frame) := by rw [← hX]; simp
      have hxl : wr.heap.size < X.heap.size := by rw [← hX]; simp
      have hb6 := HB6.out
      have z0 := (hb6.cell (p := ⟨wr.heap.size, 0, none⟩) hxl).trans y0
      have z1 := (hb6.cell (p := ⟨wr.heap.size, 1, none⟩) hxl).trans y1
      have HB7 : Hid (Below W0.heap.size W0 w6) := Lib.hid (HB.out.trans ((hXb.trans (hb6.mono (Nat.le_of_lt hxl))).mono hzr))
      have HO7 : Hid (OwnF w6 W0.heap.size u3 k (fL p k)) := Lib.hid (ownsRow_below (ownsRow_below HO.out hXb) hb6)
      have hs7 := HB7.out.size
      clear hX hXb y0 y1 hb6 HB6 hown hb c0 c1 c2 c3 c4 x0 x1 x2 x3 x4 x5
      have hlF : ([.string f.name, .int .u64 x, .int .u64 y, .int .i64 f.frame] : List Value).length = 4 := rfl
      have HYC := Lib.hid (block_cells w6 [.string f.name, .int .u64 x, .int .u64 y, .int .i64 f.frame] 50)
      have hone : ∀ u ∈ ([.string f.name, .int .u64 x, .int .u64 y, .int .i64 f.frame] : List Value), u.oneCell' = true := by
        intro u hu
        simp only [List.mem_cons, List.not_mem_nil, or_false] at hu
        rcases hu with rfl | rfl | rfl | rfl <;> rfl
      have HONE := Lib.hid hone
      clear hone
      go_wp2_with (first | (at_builtin; refine app_func _ rfl (.tmp 22) (.tmp 31) rfl W0.heap.size k u3 (fL p k) rfl (HO7.out.alloc _) ⟨w6.heap.size, 0, none⟩ 1 _ rfl hlF HYC.out HONE.out (by omega) (by simp; omega) ?_; intro v9 w9 hown9 _ hb9 _; have HO9 := Lib.hid hown9; have HB9 := Lib.hid hb9; clear hown9 hb9))
      have HB9' : Hid (Below W0.heap.size W0 w9) := Lib.hid ((HB7.out.alloc hs7 _).trans HB9.out)
      rw [← HFC.out] at HO9
      exact ⟨⟨k + 1, hlt, by go_num, HO9.out, HB9'.out⟩, by simp [intOf]; omega⟩
    · obtain rfl : k = p.funcs.length := by omega
      go_wp2_with fail
      go_ret
      exact ⟨_, rfl, OwnF.mono HO.out HB0.out.size, HB0.out.trans (HB.out.mono HB0.out.size)⟩
end Go.Proofs.Ytoedlabfiialfaa
