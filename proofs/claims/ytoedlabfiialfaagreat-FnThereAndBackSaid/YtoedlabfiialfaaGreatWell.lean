/-
  The walk through the test whether a program is well: its head is well.
-/
import Derived.Test.YtoedlabfiialfaaGreatWellH
import Derived.Test.YtoedlabfiialfaaGreatBnd
import Derived.Deep.DeepCutAuto
import Derived.Test.YtoedlabfiialfaaGreatDet
namespace Go.Proofs.YtoedlabfiialfaaGreat
open Go.RowKit


theorem below_two {w w' : World} (h' : Below w.drew.heap.size w.drew w') : Below w.heap.size w w' := (Below.refl _ _).drew.trans h'
theorem below_drewN' {W0 w : World} (h : Below W0.heap.size W0 w) (n : Nat) : Below W0.heap.size W0 (w.drewN n) := below_drewN h n

set_option maxRecDepth 100000 in
set_option maxHeartbeats 8000000 in
theorem well_head (FA SA : Option Addr) (fc sc : Nat) (p : Pg) (B : Nat) (w : World) (H : PgOk w B FA SA fc sc p) (hh : WellHead p) :
    Calls Tryz.prog 9 #[pgv FA SA fc sc p] w (BoolIs (WellP p) w) := by
  have hb0 := below_new w (.cells #[.int .u64 p.start, .slice FA p.funcs.length fc, .slice SA p.files.length sc, .bool p.big, .bool p.wide, .int .i64 p.quantum] 26)
  have HH := H.keep (hb0.mono H.bd)
  have hbx := pbox_new w FA SA fc sc p 26
  have hst := H.start
  have hbd := H.bd
  have hscap := H.scap
  have hscm := H.scm
  unfold maxLen at hscm
  have a1 := hh.start0
  have a2 := hh.start1
  have a4 := hh.startq
  have a3 := hh.pos
  have a5 := hh.fl
  have a6 := hh.sl
  have hq := hh.quantum
  have HWH := Lib.hid hh
  have b1 : ((p.start : Int) == 0) = false := by rw [beq_eq_false_iff_ne]; omega
  have b3 : ((p.funcs.length : Int) == 0) = false := by rw [beq_eq_false_iff_ne]; omega
  clear hh a1
  have HB4 : ∀ q : Int, p.quantum = q → Hid (((p.start : Int) % q != 0) = false) := fun q hq => by rw [← hq]; exact bne_eq_false_iff_eq.2 a4
  clear a4
  go_enter Tryz.func9, Tryz.ntmps9
  go_upto_region 1 with fail
  generalize hW0 : (w.alloc (.cells #[.int .u64 p.start, .slice FA p.funcs.length fc, .slice SA p.files.length sc, .bool p.big, .bool p.wide, .int .i64 p.quantum] 26)) = W0 at *
  clear hW0
  go_cut [56] from 7 to 56 (fun s wx => s = .bool false ∧ W0 = wx)
  case first =>
    have e0 := hbx.c0
    have e1 := hbx.c1
    have e2 := hbx.c2
    have e5 := hbx.c5
    have hcase : (p.quantum = 1 ∨ (p.quantum = 2 ∧ Hid (((p.start : Int) % 2 != 0) = false)) ∨ (p.quantum = 4 ∧ Hid (((p.start : Int) % 4 != 0) = false))) := by
      rcases hq with e | e | e
      · exact .inl e
      · exact .inr (.inl ⟨e, HB4 _ e⟩)
      · exact .inr (.inr ⟨e, HB4 _ e⟩)
    clear hq HB4
    rcases hcase with e | ⟨e, b4⟩ | ⟨e, b4⟩
    · rw [e] at e5
      clear e
      go_wp2_with fail
      go_meet
      exact ⟨by simp; omega, rfl⟩
    · rw [e] at e5
      have b4' := b4.out
      clear e b4
      go_wp2_with fail
      go_meet
      exact ⟨by simp; omega, rfl⟩
    · rw [e] at e5
      have b4' := b4.out
      clear e b4
      go_wp2_with fail
      go_meet
      exact ⟨by simp; omega, rfl⟩
  case rest =>
    obtain ⟨rfl, rfl⟩ := hcut
    clear HB4
    have e0 := hbx.c0
    have e1 := hbx.c1
    have e2 := hbx.c2
    have hlt0 := hbx.lt
    go_wp2_with fail
    go_loop [60] (fun i => ∃ k : Nat, k ≤ p.files.length ∧ i = .int .i64 k ∧ (∀ j (h : j < p.files.length), j < k → TextOk p.files[j] ∧ ¬ InL (p.files.take j) p.files[j])) (fun i => p.files.length - (intOf i).toNat)
    case atStart => exact ⟨0, Nat.zero_le _, rfl, fun j _ h => absurd h (by omega)⟩
    case round =>
      obtain ⟨k, hk, rfl, hall⟩ := hrel
      have HA := Lib.hid hall
      clear hall
      by_cases hlt : k < p.files.length
      · obtain ⟨b, off, rfl, hbB, h1⟩ := HH.st k hlt
        have hszk := H.ssz k hlt
        have HT := HH.st.take k
        have HX := Lib.hid (show p.files[k] = p.files[k] from rfl)
        by_cases ht : TextOk p.files[k]
        · by_cases hc : InL (p.files.take k) p.files[k]
          · have HN : Hid (¬ WellP p) := Lib.hid (fun h => (h.files k hlt).2 hc)
            generalize p.files[k] = x at *
            go_wp2_with fail
            refine (text_any x _ hszk).mono ?_
            intro e w2 h2
            obtain ⟨rfl, rfl⟩ := h2.yes ht
            go_wp2_with fail
            refine (contains_any _ k _ (p.files.take k) x B _ (by rw [List.length_take]; omega) (by unfold maxLen; omega) HT).mono ?_
            intro e w2 h2
            obtain ⟨rfl, rfl⟩ := h2.yes hc
            go_wp2_with fail
            go_ret
            exact BoolIs.mk_no rfl HN.out hb0
          · have HG : Hid (∀ j (h : j < p.files.length), j < k + 1 → TextOk p.files[j] ∧ ¬ InL (p.files.take j) p.files[j]) := Lib.hid (fun j hj hjk => by
              rcases Nat.lt_or_ge j k with h | h
              · exact HA.out j hj h
              · obtain rfl : j = k := by omega
                exact ⟨ht, hc⟩)
            generalize p.files[k] = x at *
            go_wp2_with fail
            refine (text_any x _ hszk).mono ?_
            intro e w2 h2
            obtain ⟨rfl, rfl⟩ := h2.yes ht
            go_wp2_with fail
            refine (contains_any _ k _ (p.files.take k) x B _ (by rw [List.length_take]; omega) (by unfold maxLen; omega) HT).mono ?_
            intro e w2 h2
            obtain ⟨rfl, rfl⟩ := h2.no hc
            go_wp2_with fail
            exact ⟨⟨k + 1, by omega, by go_num, HG.out⟩, by simp [intOf]; omega⟩
        · have HN : Hid (¬ WellP p) := Lib.hid (fun h => ht (h.files k hlt).1)
          generalize p.files[k] = x at *
          go_wp2_with fail
          refine (text_any x _ hszk).mono ?_
          intro e w2 h2
          obtain ⟨rfl, rfl⟩ := h2.no ht
          go_wp2_with fail
          go_ret
          exact BoolIs.mk_no rfl HN.out hb0
      · have HF := Lib.hid (fun j (hj : j < p.files.length) => HA.out j hj (by omega))
        clear HA
        go_wp2_with fail
        go_loopw [80] (fun i wr => ∃ k : Nat, k ≤ p.funcs.length ∧ i = .int .i64 k ∧ (∀ j (h : j < p.funcs.length), j < k → FnGood p.files.length p.funcs[j]) ∧ Below W0.heap.size W0 wr) (fun i _ => p.funcs.length - (intOf i).toNat)
        case atStart => exact ⟨0, Nat.zero_le _, rfl, (fun j _ h => absurd h (by omega)), Below.refl _ _⟩
        case round =>
          obtain ⟨m, hm, rfl, hall, hb⟩ := hrel
          have HA := Lib.hid hall
          clear hall
          have hzr := hb.size
          by_cases hlt2 : m < p.funcs.length
          · obtain ⟨b, off, rfl, hf⟩ := ((HH.fn).keep (hb.mono HH.bd)) m hlt2
            have c0 := hf.name
            have c1 := hf.frame
            obtain ⟨LA, lc, c2, r2⟩ := hf.lines
            obtain ⟨QA, qc, c3, r3⟩ := hf.files
            have c4 := hf.free
            have z0 := hf.szn
            have zf := hf.szf
            have zr := hf.szr
            have HY : ∀ f, p.funcs[m] = f → (FnGood p.files.length f → Hid (∀ j (h : j < p.funcs.length), j < m + 1 → FnGood p.files.length p.funcs[j])) ∧ (¬ FnGood p.files.length f → Hid (¬ WellP p)) := fun f ef =>
              ⟨fun hg j hj hjk => by
                rcases Nat.lt_or_ge j m with h | h
                · exact HA.out j hj h
                · obtain rfl : j = m := by omega
                  rw [ef]; exact hg, fun hg h => hg (ef ▸ h.funcs m hlt2)⟩
            have HY1 := HY _ rfl
            clear HY
            generalize p.funcs[m] = f at *
            have hbW1' : Below W0.heap.size W0 (wr.alloc (.cells #[.string f.name, .int .i32 f.frame, .slice LA f.lines.length lc, .slice QA f.files.length qc, .int .u32 f.free] 39)) := hb.alloc hzr _
            have hx0 := cell_of_row _ _ 0 _ _ _ (heap_alloc_new wr (.cells #[.string f.name, .int .i32 f.frame, .slice LA f.lines.length lc, .slice QA f.files.length qc, .int .u32 f.free] 39))
            have hx1 := cell_of_row _ _ 1 _ _ _ (heap_alloc_new wr (.cells #[.string f.name, .int .i32 f.frame, .slice LA f.lines.length lc, .slice QA f.files.length qc, .int .u32 f.free] 39))
            have hx2 := cell_of_row _ _ 2 _ _ _ (heap_alloc_new wr (.cells #[.string f.name, .int .i32 f.frame, .slice LA f.lines.length lc, .slice QA f.files.length qc, .int .u32 f.free] 39))
            have hx3 := cell_of_row _ _ 3 _ _ _ (heap_alloc_new wr (.cells #[.string f.name, .int .i32 f.frame, .slice LA f.lines.length lc, .slice QA f.files.length qc, .int .u32 f.free] 39))
            have hx4 := cell_of_row _ _ 4 _ _ _ (heap_alloc_new wr (.cells #[.string f.name, .int .i32 f.frame, .slice LA f.lines.length lc, .slice QA f.files.length qc, .int .u32 f.free] 39))
            have hg1' : wr.heap.size < (wr.alloc (.cells #[.string f.name, .int .i32 f.frame, .slice LA f.lines.length lc, .slice QA f.files.length qc, .int .u32 f.free] 39)).heap.size := by simp
            have hrr : Below B wr (wr.alloc (.cells #[.string f.name, .int .i32 f.frame, .slice LA f.lines.length lc, .slice QA f.files.length qc, .int .u32 f.free] 39)) := (below_new wr _).mono (Nat.le_trans HH.bd hzr)
            go_upto_region 12 with fail
            generalize (wr.alloc (.cells #[.string f.name, .int .i32 f.frame, .slice LA f.lines.length lc, .slice QA f.files.length qc, .int .u32 f.free] 39)) = W1 at *
            have hbW1 := hbW1'
            have hg1 := hg1'
            have hx5 := (hbx.keep hbW1 hbx.lt).c2
            have hg0 := (hbx.keep hbW1 hbx.lt).lt
            have hBW : B ≤ W1.heap.size := Nat.le_trans (Nat.le_trans HH.bd hzr) (Nat.le_of_lt hg1)
            have hl' := fun W' (h : Below W1.heap.size W1 W') => (r2.keep hrr).keep (h.mono hBW)
            have hq' := fun W' (h : Below W1.heap.size W1 W') => (r3.keep hrr).keep (h.mono hBW)
            have HL := Lib.hid hl'
            have HQ := Lib.hid hq'
            have HY := Lib.hid HY1
            clear hl' hq' hbW1' hg1' HY1 r2 r3 hrr
            simp only [List.getElem?_toArray, List.getElem?_cons_zero, List.getElem?_cons_succ] at hx0 hx1 hx2 hx3 hx4
            go_cut [127] (fun s wx => ∃ b, s = .bool b ∧ (b = true ↔ ¬ FnGood p.files.length f) ∧ Below W0.heap.size W0 wx)
            case first =>
              by_cases k1 : TextOk f.name
              rotate_left
              · skip
                refine wp_region_det (fun wi => Below W1.heap.size W1 wi) (by kernel_rfl) (by kernel_rfl) (Below.refl _ _).drew ?_
                iterate 44 (first
                  | (refine wpDet_skip (by rfl) ?_; simp only [Act.put, List.setIfInBounds_toArray, List.set_cons_succ, List.set_cons_zero])
                  | (apply wpDet_step
                     · rfl
                     · (intro wi hi K hK; have hc := (bcell hi).1; go_wp2_with fail
                        all_goals first
                        | exact hK _ hi
                        | exact hi
                        | (go_at_call 24; refine (text_any _ _ z0).mono ?_; intro e w2 h2; obtain ⟨rfl, rfl⟩ := h2.no k1; go_wp2_with fail; all_goals first | exact hK _ hi | exact hi))
                     · kernel_rfl))
                refine wpDet_nil (fun wi hi => ?_)
                go_wp2_with fail
                go_meet
                exact ⟨true, by simp, ⟨fun _ h => k1 h.name, fun _ => rfl⟩, below_next hbW1 hi⟩
              rcases Int.lt_or_le f.frame 0 with k2 | k2
              · have d2 : decide (f.frame < 0) = true := by simp; omega
                refine wp_region_det (fun wi => Below W1.heap.size W1 wi) (by kernel_rfl) (by kernel_rfl) (Below.refl _ _).drew ?_
                iterate 44 (first
                  | (refine wpDet_skip (by rfl) ?_; simp only [Act.put, List.setIfInBounds_toArray, List.set_cons_succ, List.set_cons_zero])
                  | (apply wpDet_step
                     · rfl
                     · (intro wi hi K hK; have hc := (bcell hi).1; go_wp2_with fail
                        all_goals first
                        | exact hK _ hi
                        | exact hi
                        | (go_at_call 24; refine (text_any _ _ z0).mono ?_; intro e w2 h2; obtain ⟨rfl, rfl⟩ := h2.yes k1; go_wp2_with fail; all_goals first | exact hK _ hi | exact hi))
                     · kernel_rfl))
                refine wpDet_nil (fun wi hi => ?_)
                go_wp2_with fail
                go_meet
                exact ⟨true, by simp, ⟨fun _ h => by have := h.fr0; omega, fun _ => rfl⟩, below_next hbW1 hi⟩
              have d2 : decide (f.frame < 0) = false := by simp; omega
              rcases Int.lt_or_le 65536 f.frame with k3 | k3
              · have d3 : decide (65536 < f.frame) = true := by simp; omega
                refine wp_region_det (fun wi => Below W1.heap.size W1 wi) (by kernel_rfl) (by kernel_rfl) (Below.refl _ _).drew ?_
                iterate 44 (first
                  | (refine wpDet_skip (by rfl) ?_; simp only [Act.put, List.setIfInBounds_toArray, List.set_cons_succ, List.set_cons_zero])
                  | (apply wpDet_step
                     · rfl
                     · (intro wi hi K hK; have hc := (bcell hi).1; go_wp2_with fail
                        all_goals first
                        | exact hK _ hi
                        | exact hi
                        | (go_at_call 24; refine (text_any _ _ z0).mono ?_; intro e w2 h2; obtain ⟨rfl, rfl⟩ := h2.yes k1; go_wp2_with fail; all_goals first | exact hK _ hi | exact hi))
                     · kernel_rfl))
                refine wpDet_nil (fun wi hi => ?_)
                go_wp2_with fail
                go_meet
                exact ⟨true, by simp, ⟨fun _ h => by have := h.fr1; omega, fun _ => rfl⟩, below_next hbW1 hi⟩
              have d3 : decide (65536 < f.frame) = false := by simp; omega
              rcases Nat.lt_or_ge 65536 f.free with k4 | k4
              · have d4 : decide ((65536 : Int) < f.free) = true := by simp; omega
                refine wp_region_det (fun wi => Below W1.heap.size W1 wi) (by kernel_rfl) (by kernel_rfl) (Below.refl _ _).drew ?_
                iterate 44 (first
                  | (refine wpDet_skip (by rfl) ?_; simp only [Act.put, List.setIfInBounds_toArray, List.set_cons_succ, List.set_cons_zero])
                  | (apply wpDet_step
                     · rfl
                     · (intro wi hi K hK; have hc := (bcell hi).1; go_wp2_with fail
                        all_goals first
                        | exact hK _ hi
                        | exact hi
                        | (go_at_call 24; refine (text_any _ _ z0).mono ?_; intro e w2 h2; obtain ⟨rfl, rfl⟩ := h2.yes k1; go_wp2_with fail; all_goals first | exact hK _ hi | exact hi))
                     · kernel_rfl))
                refine wpDet_nil (fun wi hi => ?_)
                go_wp2_with fail
                go_meet
                exact ⟨true, by simp, ⟨fun _ h => by have := h.free; omega, fun _ => rfl⟩, below_next hbW1 hi⟩
              have d4 : decide ((65536 : Int) < f.free) = false := by simp; omega
              by_cases k5 : RunsGood f.lines 65536
              rotate_left
              · skip
                refine wp_region_det (fun wi => Below W1.heap.size W1 wi) (by kernel_rfl) (by kernel_rfl) (Below.refl _ _).drew ?_
                iterate 44 (first
                  | (refine wpDet_skip (by rfl) ?_; simp only [Act.put, List.setIfInBounds_toArray, List.set_cons_succ, List.set_cons_zero])
                  | (apply wpDet_step
                     · rfl
                     · (intro wi hi K hK; have hc := (bcell hi).1; go_wp2_with fail
                        all_goals first
                        | exact hK _ hi
                        | exact hi
                        | (go_at_call 24; refine (text_any _ _ z0).mono ?_; intro e w2 h2; obtain ⟨rfl, rfl⟩ := h2.yes k1; go_wp2_with fail; all_goals first | exact hK _ hi | exact hi)
                        | (go_at_call_of 26 (Value.slice LA f.lines.length lc); refine (runs_any LA lc f.lines 65536 B _ (HL.out _ hi) (Nat.le_trans hBW hi.size) (by omega)).mono ?_; intro e w3 h3; obtain ⟨rfl, hb3⟩ := h3.no k5; go_wp2_with fail; all_goals first | exact hK _ (below_next hi hb3) | exact below_next hi hb3))
                     · kernel_rfl))
                refine wpDet_nil (fun wi hi => ?_)
                go_wp2_with fail
                go_meet
                exact ⟨true, by simp, ⟨fun _ h => k5 h.lines, fun _ => rfl⟩, below_next hbW1 hi⟩
              by_cases k6 : RunsGood f.files p.files.length
              rotate_left
              · skip
                refine wp_region_det (fun wi => Below W1.heap.size W1 wi) (by kernel_rfl) (by kernel_rfl) (Below.refl _ _).drew ?_
                iterate 44 (first
                  | (refine wpDet_skip (by rfl) ?_; simp only [Act.put, List.setIfInBounds_toArray, List.set_cons_succ, List.set_cons_zero])
                  | (apply wpDet_step
                     · rfl
                     · (intro wi hi K hK; have hc := (bcell hi).1; go_wp2_with fail
                        all_goals first
                        | exact hK _ hi
                        | exact hi
                        | (go_at_call 24; refine (text_any _ _ z0).mono ?_; intro e w2 h2; obtain ⟨rfl, rfl⟩ := h2.yes k1; go_wp2_with fail; all_goals first | exact hK _ hi | exact hi)
                        | (go_at_call_of 26 (Value.slice LA f.lines.length lc); refine (runs_any LA lc f.lines 65536 B _ (HL.out _ hi) (Nat.le_trans hBW hi.size) (by omega)).mono ?_; intro e w3 h3; obtain ⟨rfl, hb3⟩ := h3.yes k5; go_wp2_with fail; all_goals first | exact hK _ (below_next hi hb3) | exact below_next hi hb3)
                        | (go_at_call_of 26 (Value.slice QA f.files.length qc); refine (runs_any QA qc f.files _ B _ (HQ.out _ hi) (Nat.le_trans hBW hi.size) (by omega)).mono ?_; intro e w3 h3; obtain ⟨rfl, hb3⟩ := h3.no k6; go_wp2_with fail; all_goals first | exact hK _ (below_next hi hb3) | exact below_next hi hb3))
                     · kernel_rfl))
                refine wpDet_nil (fun wi hi => ?_)
                go_wp2_with fail
                go_meet
                exact ⟨true, by simp, ⟨fun _ h => k6 h.files, fun _ => rfl⟩, below_next hbW1 hi⟩
              by_cases k7 : quantaTo f.lines f.lines.length = quantaTo f.files f.files.length
              rotate_left
              · have d7 : (quantaTo f.lines f.lines.length != quantaTo f.files f.files.length) = true := by rw [bne_iff_ne]; exact k7
                clear k7
                refine wp_region_det (fun wi => Below W1.heap.size W1 wi) (by kernel_rfl) (by kernel_rfl) (Below.refl _ _).drew ?_
                iterate 44 (first
                  | (refine wpDet_skip (by rfl) ?_; simp only [Act.put, List.setIfInBounds_toArray, List.set_cons_succ, List.set_cons_zero])
                  | (apply wpDet_step
                     · rfl
                     · (intro wi hi K hK; have hc := (bcell hi).1; go_wp2_with fail
                        all_goals first
                        | exact hK _ hi
                        | exact hi
                        | (go_at_call 24; refine (text_any _ _ z0).mono ?_; intro e w2 h2; obtain ⟨rfl, rfl⟩ := h2.yes k1; go_wp2_with fail; all_goals first | exact hK _ hi | exact hi)
                        | (go_at_call_of 26 (Value.slice LA f.lines.length lc); refine (runs_any LA lc f.lines 65536 B _ (HL.out _ hi) (Nat.le_trans hBW hi.size) (by omega)).mono ?_; intro e w3 h3; obtain ⟨rfl, hb3⟩ := h3.yes k5; go_wp2_with fail; all_goals first | exact hK _ (below_next hi hb3) | exact below_next hi hb3)
                        | (go_at_call_of 26 (Value.slice QA f.files.length qc); refine (runs_any QA qc f.files _ B _ (HQ.out _ hi) (Nat.le_trans hBW hi.size) (by omega)).mono ?_; intro e w3 h3; obtain ⟨rfl, hb3⟩ := h3.yes k6; go_wp2_with fail; all_goals first | exact hK _ (below_next hi hb3) | exact below_next hi hb3)
                        | (go_at_call_of 27 (Value.slice LA f.lines.length lc); refine (quanta_any LA lc f.lines B _ (HL.out _ hi) (Nat.le_trans hBW hi.size)).mono ?_; rintro e w5 ⟨rfl, hb5⟩; go_wp2_with fail; all_goals first | exact hK _ (below_next hi hb5) | exact below_next hi hb5)
                        | (go_at_call_of 27 (Value.slice QA f.files.length qc); refine (quanta_any QA qc f.files B _ (HQ.out _ hi) (Nat.le_trans hBW hi.size)).mono ?_; rintro e w5 ⟨rfl, hb5⟩; go_wp2_with fail; all_goals first | exact hK _ (below_next hi hb5) | exact below_next hi hb5))
                     · kernel_rfl))
                refine wpDet_nil (fun wi hi => ?_)
                go_wp2_with fail
                go_meet
                exact ⟨true, by simp, ⟨fun _ h => by rw [bne_iff_ne] at d7; exact d7 h.same, fun _ => rfl⟩, below_next hbW1 hi⟩
              · have d7 : (quantaTo f.lines f.lines.length != quantaTo f.files f.files.length) = false := by rw [bne_eq_false_iff_eq]; exact k7
                have K7 := Lib.hid k7
                clear k7
                refine wp_region_det (fun wi => Below W1.heap.size W1 wi) (by kernel_rfl) (by kernel_rfl) (Below.refl _ _).drew ?_
                iterate 44 (first
                  | (refine wpDet_skip (by rfl) ?_; simp only [Act.put, List.setIfInBounds_toArray, List.set_cons_succ, List.set_cons_zero])
                  | (apply wpDet_step
                     · rfl
                     · (intro wi hi K hK; have hc := (bcell hi).1; go_wp2_with fail
                        all_goals first
                        | exact hK _ hi
                        | exact hi
                        | (go_at_call 24; refine (text_any _ _ z0).mono ?_; intro e w2 h2; obtain ⟨rfl, rfl⟩ := h2.yes k1; go_wp2_with fail; all_goals first | exact hK _ hi | exact hi)
                        | (go_at_call_of 26 (Value.slice LA f.lines.length lc); refine (runs_any LA lc f.lines 65536 B _ (HL.out _ hi) (Nat.le_trans hBW hi.size) (by omega)).mono ?_; intro e w3 h3; obtain ⟨rfl, hb3⟩ := h3.yes k5; go_wp2_with fail; all_goals first | exact hK _ (below_next hi hb3) | exact below_next hi hb3)
                        | (go_at_call_of 26 (Value.slice QA f.files.length qc); refine (runs_any QA qc f.files _ B _ (HQ.out _ hi) (Nat.le_trans hBW hi.size) (by omega)).mono ?_; intro e w3 h3; obtain ⟨rfl, hb3⟩ := h3.yes k6; go_wp2_with fail; all_goals first | exact hK _ (below_next hi hb3) | exact below_next hi hb3)
                        | (go_at_call_of 27 (Value.slice LA f.lines.length lc); refine (quanta_any LA lc f.lines B _ (HL.out _ hi) (Nat.le_trans hBW hi.size)).mono ?_; rintro e w5 ⟨rfl, hb5⟩; go_wp2_with fail; all_goals first | exact hK _ (below_next hi hb5) | exact below_next hi hb5)
                        | (go_at_call_of 27 (Value.slice QA f.files.length qc); refine (quanta_any QA qc f.files B _ (HQ.out _ hi) (Nat.le_trans hBW hi.size)).mono ?_; rintro e w5 ⟨rfl, hb5⟩; go_wp2_with fail; all_goals first | exact hK _ (below_next hi hb5) | exact below_next hi hb5))
                     · kernel_rfl))
                refine wpDet_nil (fun wi hi => ?_)
                go_wp2_with fail
                go_meet
                exact ⟨false, by simp, ⟨(fun h => by cases h), fun h => absurd ⟨k1, by omega, by omega, by omega, k5, k6, K7.out⟩ h⟩, below_next hbW1 hi⟩
            case rest =>
              obtain ⟨b, rfl, hbi, hbc⟩ := hcut
              cases b
              · have hg : FnGood p.files.length f := Classical.byContradiction fun h => by cases hbi.2 h
                have HN := HY.out.1 hg
                clear hbi
                go_wp2_with fail
                exact ⟨⟨m + 1, by omega, by go_num, HN.out, hbc⟩, by simp [intOf]; omega⟩
              · have HN := HY.out.2 (hbi.1 rfl)
                clear hbi
                go_wp2_with fail
                go_ret
                exact BoolIs.mk_no rfl HN.out (hb0.trans (hbc.mono hb0.size))
          · have HA2 := Lib.hid (fun j (hj : j < p.funcs.length) => HA.out j hj (by omega))
            go_wp2_with fail
            go_ret
            exact BoolIs.mk_yes rfl ⟨HWH.out, HF.out, HA2.out⟩ (hb0.trans (hb.mono hb0.size))

theorem well_any (FA SA : Option Addr) (fc sc : Nat) (p : Pg) (B : Nat) (w : World) (H : PgOk w B FA SA fc sc p) :
    Calls Tryz.prog 9 #[pgv FA SA fc sc p] w (BoolIs (WellP p) w) := by
  by_cases hh : WellHead p
  · exact well_head FA SA fc sc p B w H hh
  · refine (well_headless FA SA fc sc p B w H hh).mono ?_
    rintro e w' ⟨rfl, hb⟩
    exact BoolIs.mk_no rfl (fun h => hh h.head) hb
end Go.Proofs.YtoedlabfiialfaaGreat
