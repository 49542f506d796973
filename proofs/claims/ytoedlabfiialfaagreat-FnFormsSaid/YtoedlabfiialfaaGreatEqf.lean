/-
  The walk through Equal of two rows of told functions.
-/
import Derived.Test.YtoedlabfiialfaaGreatIfu
namespace Go.Proofs.YtoedlabfiialfaaGreat
open Go.RowKit

/-- the functions as they are told, in a row -/
structure FnTold (w : World) (g n : Nat) (p : Pg) : Prop where
  c0 : ∀ j, j < n → w.cell? ⟨g, j * 4, none⟩ = some (.string (p.funcs.getD j default).name)
  c1 : ∀ j, j < n → w.cell? ⟨g, j * 4 + 1, none⟩ = some (.int .u64 (bndN p j))
  c2 : ∀ j, j < n → w.cell? ⟨g, j * 4 + 2, none⟩ = some (.int .u64 (bndN p (j + 1)))
  c3 : ∀ j, j < n → w.cell? ⟨g, j * 4 + 3, none⟩ = some (.int .i64 (p.funcs.getD j default).frame)
theorem fL_at (p : Pg) (n j i : Nat) (hj : j < n) (hi : i < 4) : (fL p n)[j * 4 + i]? = (fC p j)[i]? := by
  induction n with
  | zero => omega
  | succ k ih =>
    rw [fL]
    rcases Nat.lt_or_eq_of_le (Nat.le_of_lt_succ hj) with h | rfl
    · rw [List.getElem?_append_left (by rw [fL_length]; omega)]
      exact ih h
    · rw [List.getElem?_append_right (by rw [fL_length]; omega), fL_length]
      congr 1
      omega
theorem OwnF.told {w : World} {base : Nat} {v : Value} {n : Nat} {p : Pg} (h : OwnF w base v n (fL p n)) (hn : 0 < n) : ∃ g cap, v = .slice (some ⟨g, 0, none⟩) n cap ∧ base ≤ g ∧ g < w.heap.size ∧ FnTold w g n p := by
  rcases h.2 with ⟨_, h0⟩ | ⟨g, c, cur, hv, hg, hh, h1, h2, h3, h4⟩
  · omega
  · have hc : ∀ j i, j < n → i < 4 → w.cell? ⟨g, j * 4 + i, none⟩ = (fC p j)[i]? := by
      intro j i hj hi
      have hm : j * 4 + i < n * 4 := by omega
      have hm' : n * 4 ≤ c * 4 := by omega
      rw [← fL_at p n j i hj hi, ← h4, List.getElem?_take_of_lt hm]
      rw [cell_of_row w g (j * 4 + i) cur _ _ hh]
      simp
    refine ⟨g, c, hv, hg, (Array.getElem?_eq_some_iff.1 hh).1, fun j hj => hc j 0 hj (by omega), fun j hj => hc j 1 hj (by omega), fun j hj => hc j 2 hj (by omega), fun j hj => hc j 3 hj (by omega)⟩
theorem FnTold.keep {w w' : World} {g n : Nat} {p : Pg} (h : FnTold w g n p) (hg : g < w.heap.size) (hb : Below w.heap.size w w') : FnTold w' g n p :=
  ⟨fun j hj => (hb.cell (p := ⟨g, j * 4, none⟩) hg).trans (h.c0 j hj), fun j hj => (hb.cell (p := ⟨g, j * 4 + 1, none⟩) hg).trans (h.c1 j hj), fun j hj => (hb.cell (p := ⟨g, j * 4 + 2, none⟩) hg).trans (h.c2 j hj), fun j hj => (hb.cell (p := ⟨g, j * 4 + 3, none⟩) hg).trans (h.c3 j hj)⟩

theorem neq_func (nm : ByteArray) (x y fr : Int) (w : World) : (binOp .neq 46 (.agg #[.string nm, .int .u64 x, .int .u64 y, .int .i64 fr]) (.agg #[.string nm, .int .u64 x, .int .u64 y, .int .i64 fr])).run Tryz.prog w = .ok (.bool false) w := by
  have hS : Tryz.prog.underlying 46 = some (.struct (Tryz.prog.fieldsOf 46)) := by kernel_rfl
  have hp : Tryz.prog.stoodInHeld 46 = false := by kernel_rfl
  rw [run_neq_struct, show (10000 : Nat) = 9999 + 1 from rfl, run_equalIn_agg w 9999 46 _ _ hS hp]
  simp only [Program.fieldsOf, Tryz.underlying46]
  go_simp
theorem guard_func (nm : ByteArray) (x y fr : Int) (a b : Operand) (w : World) : (eqGuard .neq 46 a b (.agg #[.string nm, .int .u64 x, .int .u64 y, .int .i64 fr]) (.agg #[.string nm, .int .u64 x, .int .u64 y, .int .i64 fr])).run Tryz.prog w = .ok () w :=
  run_eqGuard_agg w .neq 46 a b _ _ (by kernel_rfl)

set_option maxRecDepth 100000 in
set_option maxHeartbeats 1000000 in
theorem equal_any (g1 c1 g2 c2 n : Nat) (p : Pg) (w : World) (h1 : FnTold w g1 n p) (h2 : FnTold w g2 n p) (hg1 : g1 < w.heap.size) (hg2 : g2 < w.heap.size) (hn : n ≤ 1000) :
    Calls Tryz.prog 15 #[.slice (some ⟨g1, 0, none⟩) n c1, .slice (some ⟨g2, 0, none⟩) n c2] w fun e w' => e = .returned (.bool true) ∧ Below w.heap.size w w' := by
  have H1 := Lib.hid (fun (w' : World) (hb : Below w.heap.size w w') => h1.keep hg1 hb)
  have H2 := Lib.hid (fun (w' : World) (hb : Below w.heap.size w w') => h2.keep hg2 hb)
  clear h1 h2
  have hq : ((n : Int) != (n : Int)) = false := by simp
  go_enter Tryz.func15, Tryz.ntmps15
  go_wp2_with fail
  go_loopw [13] (fun i wr => ∃ k : Nat, k ≤ n ∧ i = .int .i64 k ∧ Below w.heap.size w wr) (fun i _ => n - (intOf i).toNat)
  case atStart => exact ⟨0, Nat.zero_le _, rfl, Below.refl _ _⟩
  case round =>
    obtain ⟨k, hk, rfl, hb⟩ := hrel
    have HB := Lib.hid hb
    by_cases hlt : k < n
    · obtain ⟨nm, x, y, fr, HA⟩ : ∃ nm x y fr, Hid (∀ wi, Below w.heap.size w wi → (wi.cell? ⟨g1, k * 4, none⟩ = some (.string nm) ∧ wi.cell? ⟨g1, k * 4 + 1, none⟩ = some (.int .u64 x) ∧ wi.cell? ⟨g1, k * 4 + 2, none⟩ = some (.int .u64 y) ∧ wi.cell? ⟨g1, k * 4 + 3, none⟩ = some (.int .i64 fr)) ∧ (wi.cell? ⟨g2, k * 4, none⟩ = some (.string nm) ∧ wi.cell? ⟨g2, k * 4 + 1, none⟩ = some (.int .u64 x) ∧ wi.cell? ⟨g2, k * 4 + 2, none⟩ = some (.int .u64 y) ∧ wi.cell? ⟨g2, k * 4 + 3, none⟩ = some (.int .i64 fr))) :=
        ⟨_, _, _, _, Lib.hid (fun wi hbi => ⟨⟨(H1.out wi hbi).c0 k hlt, (H1.out wi hbi).c1 k hlt, (H1.out wi hbi).c2 k hlt, (H1.out wi hbi).c3 k hlt⟩, ⟨(H2.out wi hbi).c0 k hlt, (H2.out wi hbi).c1 k hlt, (H2.out wi hbi).c2 k hlt, (H2.out wi hbi).c3 k hlt⟩⟩)⟩
      go_upto_region 6 with fail
      refine wp_region_det (fun wi => Below w.heap.size w wi) (by kernel_rfl) (by kernel_rfl) (hb.drew) ?_
      iterate 8 (first
        | (apply wpDet_step
           · rfl
           · (intro wi hi2 K hK; obtain ⟨⟨a0, a1, a2, a3⟩, b0, b1, b2, b3⟩ := HA.out wi hi2; go_wp2_with fail
              all_goals first
              | exact hK _ hi2
              | exact hi2)
           · kernel_rfl))
      apply wpDet_step
      · rfl
      · intro wi hi2 K hK
        have HNE : ∀ W : World, (binOp .neq 46 (.agg #[.string nm, .int .u64 x, .int .u64 y, .int .i64 fr]) (.agg #[.string nm, .int .u64 x, .int .u64 y, .int .i64 fr])).run Tryz.prog W = .ok (.bool false) W := fun W => neq_func nm x y fr W
        have HGD : ∀ (a b : Operand) (W : World), (eqGuard .neq 46 a b (.agg #[.string nm, .int .u64 x, .int .u64 y, .int .i64 fr]) (.agg #[.string nm, .int .u64 x, .int .u64 y, .int .i64 fr])).run Tryz.prog W = .ok () W := fun a b W => guard_func nm x y fr a b W
        go_wp2_with fail
        first | exact hK _ hi2 | exact hi2
      · kernel_rfl
      refine wpDet_nil (fun wi hi2 => ?_)
      go_wp2_with fail
      exact ⟨⟨k + 1, hlt, by go_num, hi2⟩, by simp [intOf]; omega⟩
    · obtain rfl : k = n := by omega
      go_wp2_with fail
      go_ret
      exact ⟨rfl, HB.out⟩
end Go.Proofs.YtoedlabfiialfaaGreat
