/-
  The walk through findFunc: sort.Search, its closure, and the function of a place.
-/
import Derived.Test.YtoedlabfiialfaaFd
import Derived.Shelf.Abstract
namespace Go.Proofs.Ytoedlabfiialfaa
open Go.RowKit

set_option maxRecDepth 100000 in
set_option maxHeartbeats 2000000 in
theorem search_any (g : Nat) (cb : Array Value) (n : Nat) (f : Nat → Bool) (W : World) (eg : ∀ args w, (callFunc g args).run Try.prog w = .ok (.enter g args) w) (hsz : n ≤ 1000)
    (hf : ∀ W' i, Below W.heap.size W W' → i < n → Calls Try.prog g (#[.int .i64 i] ++ cb) W' fun e w' => e = .returned (.bool (f i)) ∧ Below W'.heap.size W' w')
    (hmono : ∀ a b, a ≤ b → b < n → f a = true → f b = true) :
    Calls Try.prog 68 #[.int .i64 n, .func (.func g) #[] cb] W fun e w' => ∃ k : Nat, k ≤ n ∧ e = .returned (.int .i64 k) ∧ (∀ t, t < k → f t = false) ∧ (∀ t, k ≤ t → t < n → f t = true) ∧ Below W.heap.size W w' := by
  have HF := Lib.hid hf
  have HM := Lib.hid hmono
  clear hf hmono
  go_enter Try.func68, Try.ntmps68
  go_wp2_with fail
  go_loopg [5, 6] n (fun kx s5 s6 wr => ∃ (lo hi : Nat), s5 = .int .i64 lo ∧ s6 = .int .i64 hi ∧ lo ≤ hi ∧ hi ≤ n ∧ hi - lo ≤ kx ∧ Below W.heap.size W wr ∧
    Hid ((∀ t, t < lo → f t = false) ∧ (∀ t, hi ≤ t → t < n → f t = true)))
  case atStart => exact ⟨0, n, rfl, rfl, Nat.zero_le _, Nat.le_refl _, by omega, Below.refl _ _, Lib.hid ⟨fun t ht => absurd ht (Nat.not_lt_zero _), fun t h1 h2 => by omega⟩⟩
  case round =>
    obtain ⟨lo, hi, rfl, rfl, hlh, hin, hg, hbl, I⟩ := hrel
    have HB := Lib.hid hbl
    clear hbl
    by_cases hlt : lo < hi
    · obtain ⟨m, hm⟩ : ∃ m, (lo + hi) / 2 = m := ⟨_, rfl⟩
      have hc := HF.out wr m HB.out (by omega)
      have hme : ((lo : Int) + (hi : Int)) / 2 = (m : Int) := by omega
      have hm1 : lo ≤ m := by omega
      have hm2 : m < hi := by omega
      clear hm
      cases hp : f m <;> rw [hp] at hc
      · have HP := Lib.hid hp
        clear hp
        go_wp2_with (go_at_fn g; refine hc.mono ?_; rintro e w' ⟨rfl, hb'⟩; have HB' := Lib.hid (below_next2 HB.out hb'); clear hb')
        go_roundg (hi - (m + 1))
        case measure => omega
        case rel =>
          refine ⟨m + 1, hi, by simp, rfl, by omega, hin, Nat.le_refl _, HB'.out, Lib.hid ⟨fun t ht => ?_, I.out.2⟩⟩
          cases h : f t with
          | false => rfl
          | true => have := HM.out t m (by omega) (by omega) h; rw [HP.out] at this; cases this
      · have HP := Lib.hid hp
        clear hp
        go_wp2_with (go_at_fn g; refine hc.mono ?_; rintro e w' ⟨rfl, hb'⟩; have HB' := Lib.hid (below_next2 HB.out hb'); clear hb')
        go_roundg (m - lo)
        case measure => omega
        case rel =>
          exact ⟨lo, m, rfl, by simp, by omega, by omega, Nat.le_refl _, HB'.out, Lib.hid ⟨I.out.1, fun t ht htn => HM.out m t ht htn HP.out⟩⟩
    · obtain rfl : hi = lo := by omega
      go_wp2_with fail
      go_ret
      exact ⟨hi, hin, rfl, I.out.1, I.out.2, HB.out⟩
set_option maxRecDepth 100000 in
set_option maxHeartbeats 2000000 in
theorem findFunc1_any (lt db c pc i A C : Nat) (p : Pg) (W : World) (h : LtOk W lt db c p) (hA : W.cell? ⟨A, 0, none⟩ = some (.int .u64 pc)) (hC0 : W.cell? ⟨C, 0, none⟩ = some (.pointer (some ⟨lt, 0, none⟩))) (hC1 : W.cell? ⟨C, 1, none⟩ = some (.int .i64 (wszN p))) (hi : i ≤ p.funcs.length) :
    Calls Try.prog 69 (#[.int .i64 i] ++ #[.pointer (some ⟨C, 0, none⟩), .pointer (some ⟨A, 0, none⟩)]) W fun e w' => e = .returned (.bool (decide (pc < bndN p i))) ∧ Below W.heap.size W w' := by
  have HH := Lib.hid h
  have hAl := World.block_lt_of_cell? W ⟨A, 0, none⟩ hA
  have hCl := World.block_lt_of_cell? W ⟨C, 0, none⟩ hC0
  clear h
  go_enter Try.func69, Try.ntmps69
  go_wp2_with fail
  refine wp_region_det (fun wi => Below W.heap.size W wi) (by kernel_rfl) (by kernel_rfl) (Below.refl _ _).drew ?_
  iterate 6 (first
    | (refine wpDet_skip (by rfl) ?_; simp only [Act.put, List.setIfInBounds_toArray, List.set_cons_succ, List.set_cons_zero])
    | (apply wpDet_step
       · rfl
       · (intro wi hi2 K hK; have hc := (bcell hi2).1; go_wp2_with fail
          all_goals first
          | exact hK _ hi2
          | exact hi2
          | (go_at_call 66; (with_reducible refine Calls.mono (pc_any lt db c i p _ (HH.out.keep hi2) hi) ?_); rintro e w5 ⟨rfl, hb5⟩; go_wp2_with fail; all_goals first | exact hK _ (below_next2 hi2 hb5) | exact below_next2 hi2 hb5))
       · kernel_rfl))
  refine wpDet_nil (fun wi hi2 => ?_)
  go_wp2_with fail
  go_ret
  exact ⟨by simp, hi2⟩
abbrev fdz : Value := .agg #[.pointer none, .slice none 0 0]
set_option maxRecDepth 100000 in
set_option maxHeartbeats 2000000 in
theorem findFunc_any (lt db c pc : Nat) (p : Pg) (w : World) (h : LtOk w lt db c p) (_ : pc < 18446744073709551616) :
    Calls Try.prog 45 #[.pointer (some ⟨lt, 0, none⟩), .int .u64 pc] w fun e w' => Below w.heap.size w w' ∧
      (((pc < bndN p 0 ∨ bndN p p.funcs.length ≤ pc) ∧ e = .returned fdz) ∨ ∃ k, k < p.funcs.length ∧ bndN p k ≤ pc ∧ pc < bndN p (k + 1) ∧ e = .returned (fdv lt db c k p)) := by
  have hlt := h.lt
  have hfl := h.well.head.fl
  have HH := Lib.hid h
  have c14 := h.c14
  clear h
  go_enter Try.func45, Try.ntmps45
  go_wp2_with fail
  generalize hW : (w.alloc _).alloc _ = W
  have hWb : Below w.heap.size w W := by rw [← hW]; exact ((Below.refl _ _).alloc (Nat.le_refl _) _).alloc (by simp) _
  have gA : W.cell? ⟨w.heap.size, 0, none⟩ = some (.int .u64 pc) := by rw [← hW]; simp
  have gB : W.heap[w.heap.size + 1]? = some (.cells #[.pointer none, .slice none 0 0] 113 (0, 0)) := by
    rw [← hW]
    have := heap_alloc_new (w.alloc (.cells #[.int .u64 pc] 22)) (.cells #[.pointer none, .slice none 0 0] 113)
    simpa using this
  have hsW : w.heap.size + 1 < W.heap.size := by rw [← hW]; simp
  have HW := Lib.hid (HH.out.keep hWb)
  have d14 := (hWb.cell (p := ⟨lt, 14, none⟩) hlt).trans c14
  have HGB := Lib.hid gB
  clear hW gB
  refine Calls.mono (funcTab_any lt p _ HW.out.c5 HW.out.c8) ?_
  rintro e w1 ⟨rfl, hb1⟩
  have HB1 := Lib.hid hb1
  clear hb1
  go_wp2_with fail
  generalize hV : w1.alloc _ = V
  have HBV : Hid (Below W.heap.size W V) := Lib.hid (by rw [← hV]; exact below_next2 HB1.out ((Below.refl _ _).alloc (Nat.le_refl _) _))
  have vC0 : V.cell? ⟨w1.heap.size, 0, none⟩ = some (.pointer (some ⟨lt, 0, none⟩)) := by rw [← hV]; simp
  have vC1 : V.cell? ⟨w1.heap.size, 1, none⟩ = some (.int .i64 (wszN p)) := by rw [← hV]; simp
  have hCV : w1.heap.size < V.heap.size := by rw [← hV]; simp
  have hWV := HBV.out.size
  have vA := (HBV.out.cell (p := ⟨w.heap.size, 0, none⟩) (by show w.heap.size < W.heap.size; omega)).trans gA
  have hAV : w.heap.size < V.heap.size := by omega
  have HVO := Lib.hid (HW.out.keep HBV.out)
  have v14 := HVO.out.c14
  have hltV : lt < V.heap.size := HVO.out.lt
  have HP0 : Hid (∀ W', LtOk W' lt db c p → Calls Try.prog 66 #[ftv lt p, .int .i64 0] W' fun e w' => e = .returned (.int .u64 (bndN p 0)) ∧ Below W'.heap.size W' w') :=
    Lib.hid (fun W' h' => pc_any lt db c 0 p W' h' (Nat.zero_le _))
  clear hV
  by_cases h1 : pc < bndN p 0
  · have hd1 : decide ((pc : Int) < (bndN p 0 : Int)) = true := by simpa using h1
    have hn1 : decide (pc < bndN p 0) = true := by simpa using h1
    refine wp_region_det (fun wi => Below V.heap.size V wi) (by kernel_rfl) (by kernel_rfl) (Below.refl _ _).drew ?_
    iterate 12 (first
      | (refine wpDet_skip (by rfl) ?_; simp only [Act.put, List.setIfInBounds_toArray, List.set_cons_succ, List.set_cons_zero])
      | (apply wpDet_step
         · rfl
         · (intro wi hi2 K hK; have hc := (bcell hi2).1; go_wp2_with fail
            all_goals first
            | exact hK _ hi2
            | exact hi2
            | (go_at_call 66; (with_reducible refine Calls.mono (HP0.out _ (HVO.out.keep hi2)) ?_); rintro e w5 ⟨rfl, hb5⟩; go_wp2_with fail; all_goals first | exact hK _ (below_next2 hi2 hb5) | exact below_next2 hi2 hb5))
         · kernel_rfl))
    refine wpDet_nil (fun wi hi2 => ?_)
    have hBi := below_next2 HBV.out hi2
    have e0 := (hBi.block _ hsW).trans HGB.out
    have e1 : wi.cell? ⟨w.heap.size + 1, 0, none⟩ = some (.pointer none) := cell_of_row wi _ _ _ _ _ e0
    have e2 : wi.cell? ⟨w.heap.size + 1, 1, none⟩ = some (.slice none 0 0) := cell_of_row wi _ _ _ _ _ e0
    have e3 : wi.frozen? ⟨w.heap.size + 1, 0, none⟩ = false := by simp [World.frozen?, e0]
    have e4 : wi.frozen? ⟨w.heap.size + 1, 1, none⟩ = false := by simp [World.frozen?, e0]
    have hsi : w.heap.size + 1 < wi.heap.size := Nat.lt_of_lt_of_le hsW hBi.size
    have R2 := Lib.hid (heap_setCell_same _ (w.heap.size + 1) 1 _ _ (.slice none 0 0) (heap_setCell_same wi (w.heap.size + 1) 0 _ _ (.pointer none) e0))
    have HBi := Lib.hid (below_next2 hWb hBi)
    clear hBi hi2 e0
    go_wp2_with fail
    refine bodyPost_ret (results_cell_row rfl _ _ _ _ _ _ _ rfl R2.out Try.underlying113 rfl (by kernel_rfl)) rfl ?_
    exact ⟨(HBi.out.setCell (p := ⟨w.heap.size + 1, 0, none⟩) (Nat.le_succ _) _).setCell (p := ⟨w.heap.size + 1, 1, none⟩) (Nat.le_succ _) _, .inl ⟨.inl h1, rfl⟩⟩
  · have hd1 : decide ((pc : Int) < (bndN p 0 : Int)) = false := by simpa using h1
    have hn1 : decide (pc < bndN p 0) = false := by simpa using h1
    by_cases h2 : bndN p p.funcs.length ≤ pc
    · have hd2 : decide ((bndN p p.funcs.length : Int) ≤ (pc : Int)) = true := by simpa using h2
      have hn2 : decide (bndN p p.funcs.length ≤ pc) = true := by simpa using h2
      refine wp_region_det (fun wi => Below V.heap.size V wi) (by kernel_rfl) (by kernel_rfl) (Below.refl _ _).drew ?_
      iterate 12 (first
        | (refine wpDet_skip (by rfl) ?_; simp only [Act.put, List.setIfInBounds_toArray, List.set_cons_succ, List.set_cons_zero])
        | (apply wpDet_step
           · rfl
           · (intro wi hi2 K hK; have hc := (bcell hi2).1; go_wp2_with fail
              all_goals first
              | exact hK _ hi2
              | exact hi2
              | (go_at_call 66; (with_reducible refine Calls.mono (HP0.out _ (HVO.out.keep hi2)) ?_); rintro e w5 ⟨rfl, hb5⟩; go_wp2_with fail; all_goals first | exact hK _ (below_next2 hi2 hb5) | exact below_next2 hi2 hb5)
              | (go_at_call 66; (with_reducible refine Calls.mono (pc_any lt db c p.funcs.length p _ (HVO.out.keep hi2) (Nat.le_refl _)) ?_); rintro e w5 ⟨rfl, hb5⟩; go_wp2_with fail; all_goals first | exact hK _ (below_next2 hi2 hb5) | exact below_next2 hi2 hb5)
              | (go_at_call 67; (with_reducible refine Calls.mono (count_any lt db c p _ (HVO.out.keep hi2)) ?_); rintro e w5 ⟨rfl, hb5⟩; go_wp2_with fail; all_goals first | exact hK _ (below_next2 hi2 hb5) | exact below_next2 hi2 hb5))
           · kernel_rfl))
      refine wpDet_nil (fun wi hi2 => ?_)
      have hBi := below_next2 HBV.out hi2
      have e0 := (hBi.block _ hsW).trans HGB.out
      have e1 : wi.cell? ⟨w.heap.size + 1, 0, none⟩ = some (.pointer none) := cell_of_row wi _ _ _ _ _ e0
      have e2 : wi.cell? ⟨w.heap.size + 1, 1, none⟩ = some (.slice none 0 0) := cell_of_row wi _ _ _ _ _ e0
      have e3 : wi.frozen? ⟨w.heap.size + 1, 0, none⟩ = false := by simp [World.frozen?, e0]
      have e4 : wi.frozen? ⟨w.heap.size + 1, 1, none⟩ = false := by simp [World.frozen?, e0]
      have hsi : w.heap.size + 1 < wi.heap.size := Nat.lt_of_lt_of_le hsW hBi.size
      have R2 := Lib.hid (heap_setCell_same _ (w.heap.size + 1) 1 _ _ (.slice none 0 0) (heap_setCell_same wi (w.heap.size + 1) 0 _ _ (.pointer none) e0))
      have HBi := Lib.hid (below_next2 hWb hBi)
      clear hBi hi2 e0
      go_wp2_with fail
      refine bodyPost_ret (results_cell_row rfl _ _ _ _ _ _ _ rfl R2.out Try.underlying113 rfl (by kernel_rfl)) rfl ?_
      exact ⟨(HBi.out.setCell (p := ⟨w.heap.size + 1, 0, none⟩) (Nat.le_succ _) _).setCell (p := ⟨w.heap.size + 1, 1, none⟩) (Nat.le_succ _) _, .inl ⟨.inr h2, rfl⟩⟩
    · have hd2 : decide ((bndN p p.funcs.length : Int) ≤ (pc : Int)) = false := by simpa using h2
      have hn2 : decide (bndN p p.funcs.length ≤ pc) = false := by simpa using h2
      have H1 := Lib.hid (Nat.le_of_not_lt h1)
      have H2 := Lib.hid (Nat.lt_of_not_le h2)
      clear h1 h2
      refine wp_region_det (fun wi => Below V.heap.size V wi) (by kernel_rfl) (by kernel_rfl) (Below.refl _ _).drew ?_
      iterate 12 (first
        | (refine wpDet_skip (by rfl) ?_; simp only [Act.put, List.setIfInBounds_toArray, List.set_cons_succ, List.set_cons_zero])
        | (apply wpDet_step
           · rfl
           · (intro wi hi2 K hK; have hc := (bcell hi2).1; go_wp2_with fail
              all_goals first
              | exact hK _ hi2
              | exact hi2
              | (go_at_call 66; (with_reducible refine Calls.mono (HP0.out _ (HVO.out.keep hi2)) ?_); rintro e w5 ⟨rfl, hb5⟩; go_wp2_with fail; all_goals first | exact hK _ (below_next2 hi2 hb5) | exact below_next2 hi2 hb5)
              | (go_at_call 66; (with_reducible refine Calls.mono (pc_any lt db c p.funcs.length p _ (HVO.out.keep hi2) (Nat.le_refl _)) ?_); rintro e w5 ⟨rfl, hb5⟩; go_wp2_with fail; all_goals first | exact hK _ (below_next2 hi2 hb5) | exact below_next2 hi2 hb5)
              | (go_at_call 67; (with_reducible refine Calls.mono (count_any lt db c p _ (HVO.out.keep hi2)) ?_); rintro e w5 ⟨rfl, hb5⟩; go_wp2_with fail; all_goals first | exact hK _ (below_next2 hi2 hb5) | exact below_next2 hi2 hb5))
           · kernel_rfl))
      refine wpDet_nil (fun wi hi2 => ?_)
      have hBi := below_next2 HBV.out hi2
      have HBi := Lib.hid (below_next2 hWb hBi)
      have hc := (bcell hi2).1
      have hsi : w.heap.size + 1 < wi.heap.size := Nat.lt_of_lt_of_le hsW hBi.size
      have HGi := Lib.hid ((hBi.block _ hsW).trans HGB.out)
      have HIO := Lib.hid (HVO.out.keep hi2)
      have i14 := HIO.out.c14
      have iA := (hc _ _ hAV).trans vA
      have iC0 := (hc _ _ hCV).trans vC0
      have iC1 := (hc _ _ hCV).trans vC1
      have HA0 := Lib.hid hAV
      have HC0 := Lib.hid hCV
      have hszi : Hid (V.heap.size ≤ wi.heap.size) := Lib.hid hi2.size
      clear hBi hi2 hc
      go_wp2_with fail
      refine Calls.mono (search_any 69 #[.pointer (some ⟨w1.heap.size, 0, none⟩), .pointer (some ⟨w.heap.size, 0, none⟩)] p.funcs.length (fun i => decide (pc < bndN p i)) wi (fun _ _ => rfl) (by omega)
        (fun W' i hb hi => findFunc1_any lt db c pc i w.heap.size w1.heap.size p W' (HIO.out.keep hb)
          ((hb.cell (p := ⟨w.heap.size, 0, none⟩) (Nat.lt_of_lt_of_le HA0.out hszi.out)).trans iA)
          ((hb.cell (p := ⟨w1.heap.size, 0, none⟩) (Nat.lt_of_lt_of_le HC0.out hszi.out)).trans iC0)
          ((hb.cell (p := ⟨w1.heap.size, 1, none⟩) (Nat.lt_of_lt_of_le HC0.out hszi.out)).trans iC1) (Nat.le_of_lt hi))
        (fun a b hab hb ha => by
          rcases Nat.eq_or_lt_of_le hab with rfl | h
          · exact ha
          · have h1 := HIO.out.well.bnd_mono a b h (Nat.le_of_lt hb)
            have h2 := of_decide_eq_true ha
            exact decide_eq_true (by omega))) ?_
      rintro e w6 ⟨k, hkn, rfl, hk1, hk2, hb6⟩
      have hk0 : 0 < k := by
        rcases Nat.eq_zero_or_pos k with rfl | h
        · have h3 := H1.out
          by_cases hn : 0 < p.funcs.length
          · have := of_decide_eq_true (hk2 0 (Nat.le_refl _) hn)
            omega
          · have e0 : p.funcs.length = 0 := by omega
            have h4 := H2.out
            rw [e0] at h4
            omega
        · exact h
      obtain ⟨m, rfl⟩ : ∃ m, k = m + 1 := ⟨k - 1, by omega⟩
      have hlo : bndN p m ≤ pc := by
        have := of_decide_eq_false (hk1 m (Nat.lt_succ_self m))
        omega
      have hhi : pc < bndN p (m + 1) := by
        by_cases h : m + 1 < p.funcs.length
        · exact of_decide_eq_true (hk2 (m + 1) (Nat.le_refl _) h)
        · have : m + 1 = p.funcs.length := by omega
          rw [this]
          exact H2.out
      have HLH := Lib.hid (And.intro hlo hhi)
      have HB6 := Lib.hid hb6
      have hm : m < p.funcs.length := by omega
      clear hk1 hk2 hlo hhi hb6 hk0
      have HW6 := Lib.hid (HIO.out.keep HB6.out)
      go_wp2_with fail
      refine Calls.mono (funcData_any lt db c m p _ HW6.out hm) ?_
      rintro e w7 ⟨rfl, hb7⟩
      have hB7 := below_next2 HB6.out hb7
      have e0 := (hB7.block _ hsi).trans HGi.out
      have e1 : w7.cell? ⟨w.heap.size + 1, 0, none⟩ = some (.pointer none) := cell_of_row w7 _ _ _ _ _ e0
      have e2 : w7.cell? ⟨w.heap.size + 1, 1, none⟩ = some (.slice none 0 0) := cell_of_row w7 _ _ _ _ _ e0
      have e3 : w7.frozen? ⟨w.heap.size + 1, 0, none⟩ = false := by simp [World.frozen?, e0]
      have e4 : w7.frozen? ⟨w.heap.size + 1, 1, none⟩ = false := by simp [World.frozen?, e0]
      have hs7 : w.heap.size + 1 < w7.heap.size := Nat.lt_of_lt_of_le hsi hB7.size
      have R2 := Lib.hid (heap_setCell_same _ (w.heap.size + 1) 1 _ _ (.slice (some ⟨db, headN p + m * recN p, none⟩) ((bytesB p).length - (headN p + m * recN p)) (c - (headN p + m * recN p))) (heap_setCell_same w7 (w.heap.size + 1) 0 _ _ (.pointer (some ⟨lt, 0, none⟩)) e0))
      have HBz := Lib.hid (below_next2 HBi.out hB7)
      clear hB7 hb7 e0
      go_wp2_with fail
      refine bodyPost_ret (results_cell_row rfl _ _ _ _ _ _ _ rfl R2.out Try.underlying113 rfl (by kernel_rfl)) rfl ?_
      exact ⟨(HBz.out.setCell (p := ⟨w.heap.size + 1, 0, none⟩) (Nat.le_succ _) _).setCell (p := ⟨w.heap.size + 1, 1, none⟩) (Nat.le_succ _) _, .inr ⟨m, hm, HLH.out.1, HLH.out.2, rfl⟩⟩
end Go.Proofs.Ytoedlabfiialfaa
