/-
  The walk through parsePclnTab.
-/
import Derived.Test.YtoedlabfiialfaaNp
import Derived.Outline
import Derived.Deep.DeepCutAuto
namespace Go.Proofs.Ytoedlabfiialfaa
open Go.RowKit

theorem catchParse_idle (w : World) :
    CallsD Try.prog 60 #[] .returning w fun e u' w' => e = .returned (.tuple #[]) ∧ u' = .returning ∧ w' = w := by
  refine callsD_of_wpS Try.func60 rfl fun c₀ cs hu => ?_
  apply wpS_region
  cases c₀
  simp_all [wpOpsS, go_sem, recoverD, Try.ntmps60, bodyPostS, results, Try.results60]

/-- the bytes 4 to 7 of the head -/
theorem head_bytes {w : World} {db : Nat} {p : Pg} (h : Mem w db 0 (bytesB p)) :
    w.cell? ⟨db, 4, none⟩ = some (.int .u8 0) ∧ w.cell? ⟨db, 5, none⟩ = some (.int .u8 0) ∧ w.cell? ⟨db, 6, none⟩ = some (bv (UInt8.ofNat p.quantum.toNat)) ∧ w.cell? ⟨db, 7, none⟩ = some (bv (UInt8.ofNat (wszN p))) := by
  have ha : At (bytesB p) 4 [0, 0, UInt8.ofNat p.quantum.toNat, UInt8.ofNat (wszN p)] := (bytes_hdr p).left.right' (by simp [numB_length])
  have hm := h.at ha
  exact ⟨hm 0 (by simp), hm 1 (by simp), hm 2 (by simp), hm 3 (by simp)⟩
theorem magic_at (p : Pg) : At (bytesB p) 0 (numB p.big 4294967291 4) := (bytes_hdr p).left.left

set_option maxRecDepth 100000 in
set_option maxHeartbeats 4000000 in
theorem parse_any (lt db c : Nat) (m1 m2 : Value) (p : Pg) (w : World) (HW : WellP p) (hr : w.heap[lt]? = some (.cells (row0 (bytesV db c p) m1 m2) 104 (0, 0))) (hm : Mem w db 0 (bytesB p)) (hnd : db ≠ lt)
    (hc : (bytesB p).length ≤ c) (cm : c ≤ maxLen) :
    Calls Try.prog 43 #[.pointer (some ⟨lt, 0, none⟩)] w fun e w' => e = .returned (.tuple #[]) ∧ Fr (fun k => k = lt) w w' ∧
      w'.heap[lt]? = some (.cells (rowE db c p 0 m1 m2 (.map none)) 104 (0, 0)) := by
  have hmf : ∀ (fn : Go.Fn) (first cap : Array Value) (w : World), (Instr.makeFunc fn first cap).run Try.prog w = .ok (.func fn first cap) w := fun _ _ _ _ => rfl
  have hsf : ∀ (a : Addr) (fn : Go.Fn) (cs cap : Array Value) (w : World), (store a (.func fn cs cap)).run Try.prog w = stored Try.prog w a (.func fn cs cap) .plain := fun a _ _ _ w => run_store _ w a _ _ rfl
  have hlt : lt < w.heap.size := (Array.getElem?_eq_some_iff.1 hr).1
  have hdb : db < w.heap.size := World.block_lt_of_cell? w _ (hm 0 (by have := HW.len_le; omega))
  have hll := HW.len_le
  have hb0 := (Below.refl w.heap.size w).alloc (Nat.le_refl _) (.cells #[.pointer (some ⟨lt, 0, none⟩)] 60)
  have P0 : PS w (w.alloc (.cells #[.pointer (some ⟨lt, 0, none⟩)] 60)) lt w.heap.size db p (row0 (bytesV db c p) m1 m2) :=
    ⟨(hb0.block lt hlt).trans hr, heap_alloc_new _ _, hm.keep hdb hb0, (Fr.refl _ w).alloc _, by omega, hnd⟩
  have HP0 := Lib.hid P0
  have HWH := Lib.hid HW
  clear hr hm hb0 P0 HW
  unfold maxLen at cm
  go_enter_defers Try.func43, Try.ntmps43
  go_upto_region 1 with fail
  generalize (w.alloc (.cells #[.pointer (some ⟨lt, 0, none⟩)] 60)) = W0 at *
  have gb := HP0.out.box
  have g3 : W0.cell? ⟨lt, 3, none⟩ = some (.int .i32 0) := HP0.out.cell 3
  have f3 := HP0.out.free 3
  go_wp2_with fail
  refine Calls.mono (Go.MuLone.lock_free muLib ⟨lt, 3, none⟩ W0 g3 f3) ?_
  rintro e w1 ⟨rfl, rfl⟩
  have HP1 := Lib.hid (HP0.out.set 3 (.int .i32 1))
  simp only [List.setIfInBounds_toArray, List.set_cons_succ, List.set_cons_zero] at HP1
  generalize W0.setCell ⟨lt, 3, none⟩ (.int .i32 1) = W1 at *
  clear gb g3 f3 HP0
  have gb := HP1.out.box
  have g5 : W1.cell? ⟨lt, 5, none⟩ = some (.int .i64 0) := HP1.out.cell 5
  have f5 := HP1.out.free 5
  go_upto_region 6 with fail
  have HP2 := Lib.hid (HP1.out.set 5 (.int .i64 1))
  simp only [List.setIfInBounds_toArray, List.set_cons_succ, List.set_cons_zero] at HP2
  generalize W1.setCell ⟨lt, 5, none⟩ (.int .i64 1) = W2 at *
  clear gb g5 f5 HP1
  have gb := HP2.out.box
  have g0 : W2.cell? ⟨lt, 0, none⟩ = some (bytesV db c p) := HP2.out.cell 0
  obtain ⟨k4, k5, k6, k7⟩ := head_bytes HP2.out.mem
  go_cut [94] from 26 to 94 (fun s wx => s = .bool false ∧ W2 = wx)
  case first =>
    rename_i hA3 K0 hA2 J1 K1 hA1 hA0
    clear hA3 hA2
    have hq := HWH.out.head.qm
    have hz := wszN_or p
    unfold bytesV at g0
    generalize (bytesB p).length = n at *
    generalize wszN p = z at *
    generalize p.quantum.toNat = q at *
    have hcase : (q = 1 ∧ W2.cell? ⟨db, 6, none⟩ = some (.int .u8 1)) ∨ (q = 2 ∧ W2.cell? ⟨db, 6, none⟩ = some (.int .u8 2)) ∨ (q = 4 ∧ W2.cell? ⟨db, 6, none⟩ = some (.int .u8 4)) := by
      rcases hq with e | e | e <;> subst e
      · exact .inl ⟨rfl, k6⟩
      · exact .inr (.inl ⟨rfl, k6⟩)
      · exact .inr (.inr ⟨rfl, k6⟩)
    have hcase2 : W2.cell? ⟨db, 7, none⟩ = some (.int .u8 8) ∨ W2.cell? ⟨db, 7, none⟩ = some (.int .u8 4) := by
      rcases hz with ⟨_, e⟩ | ⟨_, e⟩ <;> subst e
      · exact .inl k7
      · exact .inr k7
    have hd16 : decide ((n : Int) < 16) = false := by simp; omega
    have i4 : (4 : Int) < (n : Int) := by omega
    have i5 : (5 : Int) < (n : Int) := by omega
    have i6 : (6 : Int) < (n : Int) := by omega
    have i7 : (7 : Int) < (n : Int) := by omega
    clear k6 k7 hq hz HP2 HWH hmf hsf hll hc cm hlt hdb hnd
    rcases hcase with ⟨_, k6⟩ | ⟨_, k6⟩ | ⟨_, k6⟩ <;> rcases hcase2 with k7 | k7
    all_goals
      simp only [List.append_eq, List.cons_append, List.nil_append]
      go_wp2_with fail
      go_meet
    all_goals exact ⟨rfl, rfl⟩
  case rest =>
    obtain ⟨rfl, rfl⟩ := hcut
    have hM := Lib.hid (HP2.out.mem.at (magic_at p))
    have hML := Lib.hid (numB_length p.big 4294967291 4)
    obtain ⟨v1, hv1⟩ : ∃ v1 : Nat, numV false (numB p.big 4294967291 4) = v1 := ⟨_, rfl⟩
    obtain ⟨v2, hv2⟩ : ∃ v2 : Nat, numV true (numB p.big 4294967291 4) = v2 := ⟨_, rfl⟩
    have HV : Hid ((p.big = false ∧ v1 = 4294967291 ∧ v2 = 4227858431) ∨ (p.big = true ∧ v1 = 4227858431 ∧ v2 = 4294967291)) := Lib.hid (by
      subst hv1 hv2
      cases p.big
      · exact .inl ⟨rfl, by decide, by decide⟩
      · exact .inr ⟨rfl, by decide, by decide⟩)
    have H1 := Lib.hid hv1
    have H2 := Lib.hid hv2
    clear hv1 hv2
    have hn4 : 4 ≤ (bytesB p).length := by omega
    clear k4 k5 k6 k7
    go_wp2_with fail
    refine Calls.mono (uint32_any false db 0 (bytesB p).length c (numB p.big 4294967291 4) W2 hML.out hM.out hn4 hc) ?_
    rintro e W3 ⟨rfl, hb3⟩
    rw [H1.out]
    have HP3 := Lib.hid (HP2.out.keep HWH.out hb3)
    have hM3 := Lib.hid (HP3.out.mem.at (magic_at p))
    clear hb3 gb g0 HP2 hM
    have gb := HP3.out.box
    have g0 : W3.cell? ⟨lt, 0, none⟩ = some (bytesV db c p) := HP3.out.cell 0
    go_wp2_with fail
    refine Calls.mono (uint32_any true db 0 (bytesB p).length c (numB p.big 4294967291 4) W3 hML.out hM3.out hn4 hc) ?_
    rintro e W4 ⟨rfl, hb4⟩
    rw [H2.out]
    have HP4 := Lib.hid (HP3.out.keep HWH.out hb4)
    clear hb4 gb g0 HP3 hM3
    have gb := HP4.out.box
    have f5 := HP4.out.free 6
    have f6 := HP4.out.free 5
    have h5 : W4.cell? ⟨lt, 6, none⟩ = some (.bool false) := HP4.out.cell 6
    have h6 : W4.cell? ⟨lt, 5, none⟩ = some (.int .i64 1) := HP4.out.cell 5
    have HP5 := Lib.hid (HP4.out.set 6 (.bool p.big))
    simp only [List.setIfInBounds_toArray, List.set_cons_succ, List.set_cons_zero] at HP5
    clear HP4
    obtain ⟨qn, hqn⟩ : ∃ qn : Nat, p.quantum.toNat = qn := ⟨_, rfl⟩
    have hq4 : qn ≤ 4 := by have := HWH.out.head.qm; omega
    have HQ : Hid (p.quantum = (qn : Int)) := Lib.hid (by have := HWH.out.head.quantum; omega)
    have HQN := Lib.hid hqn
    clear hqn
    obtain ⟨nf, hnf⟩ : ∃ nf, p.funcs.length = nf := ⟨_, rfl⟩
    have hnf1 : nf ≤ 100 := by have := HWH.out.head.fl; omega
    obtain ⟨nl, hnl⟩ : ∃ nl, p.files.length + 1 = nl := ⟨_, rfl⟩
    have hnl1 : nl ≤ 101 := by have := HWH.out.head.sl; omega
    have HAF := Lib.hid (bytes_foff p)
    have hfo1 := (bytes_foff p).le
    rw [numB_length, hnf] at hfo1
    have HAN : Hid (At (bytesB p) (filesOff p) (numB p.big nl 4)) := Lib.hid (by have := bytes_nfiles p; rwa [hnl] at this)
    have hfo2 : filesOff p + 4 * nl ≤ (bytesB p).length := by
      rcases Nat.eq_zero_or_pos p.files.length with h | h
      · have := (bytes_nfiles p).le
        rw [numB_length] at this
        omega
      · have := (bytes_fno p (p.files.length - 1) (by omega)).le
        rw [numB_length] at this
        omega
    have hfo3 : filesOff p ≤ 105800 := HWH.out.parts_le.2.2.2.2.2.2
    have HAC : Hid (At (bytesB p) 8 (wordB p nf)) := Lib.hid (by have := (bytes_hdr p).right' (o' := 8) (by simp [numB_length]); rwa [hnf] at this)
    have HNF := Lib.hid hnf
    have HNL := Lib.hid hnl
    obtain ⟨fo, hfo⟩ : ∃ fo, filesOff p = fo := ⟨_, rfl⟩
    rw [hfo] at hfo2 hfo3 HAN HAF
    have hnl0 : 1 ≤ nl := by omega
    have hfoc : fo < c := by omega
    have HFO := Lib.hid hfo
    have HB : ∀ b, b = p.big → Hid (∀ N, N < 4294967296 → numV b (numB p.big N 4) = N) := fun b e => Lib.hid (fun N hN => by rw [e]; exact numV_4 hN)
    have HZ := wszN_or p
    clear hnf hnl hfo
    rcases HV.out with ⟨hbig, rfl, rfl⟩ | ⟨hbig, rfl, rfl⟩ <;> rcases HZ with ⟨_, hz⟩ | ⟨_, hz⟩
    · skip
      rw [hz] at hfo1
      have HBV := HB _ hbig.symm
      have HZ_ := Lib.hid hz
      have HBG := Lib.hid hbig
      rw [hbig] at HP5
      clear HV H1 H2 HB hz hbig
      go_upto_region 26 with fail
      generalize W4.setCell { block := lt, off := 6, spot := none } _ = W5 at *
      clear gb f5 f6 h5 h6
      have gb := HP5.out.box
      have f5 := HP5.out.free 5
      have h5 : W5.cell? ⟨lt, 5, none⟩ = some (.int .i64 1) := HP5.out.cell 5
      have hbxl := HP5.out.bx
      have hltl := HP5.out.lt
      go_wp2_with fail
      have HP6 := Lib.hid (HP5.out.set 5 (.int .i64 2))
      simp only [List.setIfInBounds_toArray, List.set_cons_succ, List.set_cons_zero] at HP6
      generalize W5.setCell { block := lt, off := 5, spot := none } _ = W6 at *
      clear gb f5 h5 HP5 hbxl hltl
      have gb := HP6.out.box
      have hbxl := HP6.out.bx
      have hltl := HP6.out.lt
      have hdbl := HP6.out.db HWH.out
      have g0 : W6.cell? ⟨lt, 0, none⟩ = some (.slice (some ⟨db, 0, none⟩) (bytesB p).length c) := HP6.out.cell 0
      obtain ⟨_, _, k6, k7⟩ := head_bytes HP6.out.mem
      rw [HQN.out] at k6
      rw [HZ_.out] at k7
      have k6' : W6.cell? ⟨db, 6, none⟩ = some (.int .u8 qn) := by rw [k6]; exact congrArg (fun z : Nat => some (Value.int .u8 z)) (by rw [UInt8.toNat_ofNat']; omega)
      have k7' : W6.cell? ⟨db, 7, none⟩ = some (.int .u8 (8 : Nat)) := k7
      clear k6 k7
      have i6 : (6 : Int) < ((bytesB p).length : Int) := by omega
      have i7 : (7 : Int) < ((bytesB p).length : Int) := by omega
      refine wp_region_dett (fun wi => Below W6.heap.size W6 wi) 10 _ (by kernel_rfl) (by kernel_rfl) (by kernel_rfl) rfl rfl (Below.refl _ _).drew ?_
      iterate 10 (first
        | (refine wpDet_skip (by rfl) ?_; simp only [Act.put, List.setIfInBounds_toArray, List.set_cons_succ, List.set_cons_zero])
        | (apply wpDet_step
           · rfl
           · (intro wi hi K hK; have hc := (bcell hi).1; go_wp2_with fail
              all_goals first
              | exact hK _ hi
              | exact hi)
           · kernel_rfl))
      refine wpDet_nil (fun wi hi => ?_)
      have HPi := Lib.hid (HP6.out.keep HWH.out hi)
      clear HP6 gb hbxl hltl hdbl g0 k6' k7' i6 i7
      have gi := HPi.out.free 7
      have gj := HPi.out.lt
      have gk := HPi.out.cell 7
      simp only [List.getElem?_toArray, List.getElem?_cons_succ, List.getElem?_cons_zero] at gk
      go_wp2_with fail
      have HPn := HPi.out.set 7 (.int .u32 qn)
      simp only [List.setIfInBounds_toArray, List.set_cons_succ, List.set_cons_zero] at HPn
      have HP7 := Lib.hid HPn
      generalize wi.setCell { block := lt, off := 7, spot := none } _ = W7 at *
      clear hi gi gj gk HPi HPn
      have gb := HP7.out.box
      have hbxl := HP7.out.bx
      have hltl := HP7.out.lt
      have hdbl := HP7.out.db HWH.out
      have g0 : W7.cell? ⟨lt, 0, none⟩ = some (.slice (some ⟨db, 0, none⟩) (bytesB p).length c) := HP7.out.cell 0
      obtain ⟨_, _, k6, k7⟩ := head_bytes HP7.out.mem
      rw [HQN.out] at k6
      rw [HZ_.out] at k7
      have k6' : W7.cell? ⟨db, 6, none⟩ = some (.int .u8 qn) := by rw [k6]; exact congrArg (fun z : Nat => some (Value.int .u8 z)) (by rw [UInt8.toNat_ofNat']; omega)
      have k7' : W7.cell? ⟨db, 7, none⟩ = some (.int .u8 (8 : Nat)) := k7
      clear k6 k7
      have i6 : (6 : Int) < ((bytesB p).length : Int) := by omega
      have i7 : (7 : Int) < ((bytesB p).length : Int) := by omega
      refine wp_region_dett (fun wi => Below W7.heap.size W7 wi) 10 _ (by kernel_rfl) (by kernel_rfl) (by kernel_rfl) rfl rfl (Below.refl _ _).drew ?_
      iterate 10 (first
        | (refine wpDet_skip (by rfl) ?_; simp only [Act.put, List.setIfInBounds_toArray, List.set_cons_succ, List.set_cons_zero])
        | (apply wpDet_step
           · rfl
           · (intro wi hi K hK; have hc := (bcell hi).1; go_wp2_with fail
              all_goals first
              | exact hK _ hi
              | exact hi)
           · kernel_rfl))
      refine wpDet_nil (fun wi hi => ?_)
      have HPi := Lib.hid (HP7.out.keep HWH.out hi)
      clear HP7 gb hbxl hltl hdbl g0 k6' k7' i6 i7
      have gi := HPi.out.free 8
      have gj := HPi.out.lt
      have gk := HPi.out.cell 8
      simp only [List.getElem?_toArray, List.getElem?_cons_succ, List.getElem?_cons_zero] at gk
      go_upto_region 29 with fail
      have HPn := HPi.out.set 8 (.int .u32 8)
      simp only [List.setIfInBounds_toArray, List.set_cons_succ, List.set_cons_zero] at HPn
      have HP8 := Lib.hid HPn
      generalize wi.setCell { block := lt, off := 8, spot := none } _ = W8 at *
      clear hi gi gj gk HPi HPn
      have hsz8 := HP8.out.bx
      go_wp2_with fail
      generalize hW9 : W8.alloc _ = W9
      have HP9 := Lib.hid (HP8.out.alloc HWH.out _ hW9)
      clear hW9 HP8
      have gb := HP9.out.box
      have hbxl := HP9.out.bx
      have hltl := HP9.out.lt
      have hdbl := HP9.out.db HWH.out
      have g0 : W9.cell? ⟨lt, 0, none⟩ = some (.slice (some ⟨db, 0, none⟩) (bytesB p).length c) := HP9.out.cell 0
      have HC5 := Lib.hid (fun wi (hi : Below W9.heap.size W9 wi) => (show wi.cell? ⟨lt, 5, none⟩ = some (.int .i64 2) from (HP9.out.keep HWH.out hi).cell 5))
      have HC6 := Lib.hid (fun wi (hi : Below W9.heap.size W9 wi) => (show wi.cell? ⟨lt, 6, none⟩ = some (.bool p.big) from by rw [HBG.out]; exact (HP9.out.keep HWH.out hi).cell 6))
      have HC8 := Lib.hid (fun wi (hi : Below W9.heap.size W9 wi) => (show wi.cell? ⟨lt, 8, none⟩ = some (.int .u32 (wszN p)) from by rw [HZ_.out]; exact (HP9.out.keep HWH.out hi).cell 8))
      refine wp_region_dett (fun wi => Below W9.heap.size W9 wi) 11 _ (by kernel_rfl) (by kernel_rfl) (by kernel_rfl) rfl rfl (Below.refl _ _).drew ?_
      iterate 11 (first
        | (refine wpDet_skip (by rfl) ?_; simp only [Act.put, List.setIfInBounds_toArray, List.set_cons_succ, List.set_cons_zero])
        | (apply wpDet_step
           · rfl
           · (intro wi hi K hK; have hc := (bcell hi).1; go_wp2_with fail
              all_goals first
              | exact hK _ hi
              | exact hi
              | (go_at_call 62; (with_reducible refine Calls.mono (uintptr_any lt db p 8 _ _ nf _ (HC6.out _ hi) (HC8.out _ hi) ((HP9.out.keep HWH.out hi).mem.at HAC.out) (by omega) (by rw [HZ_.out]; omega) (by omega)) ?_); rintro e w5 ⟨rfl, hb5⟩; go_wp2_with fail; all_goals first | exact hK _ (below_next2 hi hb5) | exact below_next2 hi hb5))
           · kernel_rfl))
      refine wpDet_nil (fun wi hi => ?_)
      have HPi := Lib.hid (HP9.out.keep HWH.out hi)
      clear HP9 gb hbxl hltl hdbl g0 HC5 HC6 HC8
      have gi := HPi.out.free 14
      have gj := HPi.out.lt
      have gk := HPi.out.cell 14
      simp only [List.getElem?_toArray, List.getElem?_cons_succ, List.getElem?_cons_zero] at gk
      go_wp2_with fail
      have HPn := HPi.out.set 14 (.int .u32 nf)
      simp only [List.setIfInBounds_toArray, List.set_cons_succ, List.set_cons_zero] at HPn
      have HP10 := Lib.hid HPn
      generalize wi.setCell { block := lt, off := 14, spot := none } _ = W10 at *
      clear hi gi gj gk HPi HPn
      have gb := HP10.out.box
      have hbxl := HP10.out.bx
      have hltl := HP10.out.lt
      have hdbl := HP10.out.db HWH.out
      have g0 : W10.cell? ⟨lt, 0, none⟩ = some (.slice (some ⟨db, 0, none⟩) (bytesB p).length c) := HP10.out.cell 0
      refine wp_region_dett (fun wi => Below W10.heap.size W10 wi) 7 _ (by kernel_rfl) (by kernel_rfl) (by kernel_rfl) rfl rfl (Below.refl _ _).drew ?_
      iterate 7 (first
        | (refine wpDet_skip (by rfl) ?_; simp only [Act.put, List.setIfInBounds_toArray, List.set_cons_succ, List.set_cons_zero])
        | (apply wpDet_step
           · rfl
           · (intro wi hi K hK; have hc := (bcell hi).1; go_wp2_with fail
              all_goals first
              | exact hK _ hi
              | exact hi)
           · kernel_rfl))
      refine wpDet_nil (fun wi hi => ?_)
      have HPi := Lib.hid (HP10.out.keep HWH.out hi)
      clear HP10 gb hbxl hltl hdbl g0
      have gi := HPi.out.free 12
      have gj := HPi.out.lt
      have gk := HPi.out.cell 12
      simp only [List.getElem?_toArray, List.getElem?_cons_succ, List.getElem?_cons_zero] at gk
      go_wp2_with fail
      have HPn := HPi.out.set 12 (.slice (some ⟨db, 0, none⟩) (bytesB p).length c)
      simp only [List.setIfInBounds_toArray, List.set_cons_succ, List.set_cons_zero] at HPn
      have HP11 := Lib.hid HPn
      generalize wi.setCell { block := lt, off := 12, spot := none } _ = W11 at *
      clear hi gi gj gk HPi HPn
      have gb := HP11.out.box
      have hbxl := HP11.out.bx
      have hltl := HP11.out.lt
      have hdbl := HP11.out.db HWH.out
      have g0 : W11.cell? ⟨lt, 0, none⟩ = some (.slice (some ⟨db, 0, none⟩) (bytesB p).length c) := HP11.out.cell 0
      refine wp_region_dett (fun wi => Below W11.heap.size W11 wi) 7 _ (by kernel_rfl) (by kernel_rfl) (by kernel_rfl) rfl rfl (Below.refl _ _).drew ?_
      iterate 7 (first
        | (refine wpDet_skip (by rfl) ?_; simp only [Act.put, List.setIfInBounds_toArray, List.set_cons_succ, List.set_cons_zero])
        | (apply wpDet_step
           · rfl
           · (intro wi hi K hK; have hc := (bcell hi).1; go_wp2_with fail
              all_goals first
              | exact hK _ hi
              | exact hi)
           · kernel_rfl))
      refine wpDet_nil (fun wi hi => ?_)
      have HPi := Lib.hid (HP11.out.keep HWH.out hi)
      clear HP11 gb hbxl hltl hdbl g0
      have gi := HPi.out.free 10
      have gj := HPi.out.lt
      have gk := HPi.out.cell 10
      simp only [List.getElem?_toArray, List.getElem?_cons_succ, List.getElem?_cons_zero] at gk
      go_wp2_with fail
      have HPn := HPi.out.set 10 (.slice (some ⟨db, 0, none⟩) (bytesB p).length c)
      simp only [List.setIfInBounds_toArray, List.set_cons_succ, List.set_cons_zero] at HPn
      have HP12 := Lib.hid HPn
      generalize wi.setCell { block := lt, off := 10, spot := none } _ = W12 at *
      clear hi gi gj gk HPi HPn
      have gb := HP12.out.box
      have hbxl := HP12.out.bx
      have hltl := HP12.out.lt
      have hdbl := HP12.out.db HWH.out
      have g0 : W12.cell? ⟨lt, 0, none⟩ = some (.slice (some ⟨db, 0, none⟩) (bytesB p).length c) := HP12.out.cell 0
      have g8 : W12.cell? ⟨lt, 8, none⟩ = some (.int .u32 8) := HP12.out.cell 8
      refine wp_region_dett (fun wi => Below W12.heap.size W12 wi) 13 _ (by kernel_rfl) (by kernel_rfl) (by kernel_rfl) rfl rfl (Below.refl _ _).drew ?_
      iterate 13 (first
        | (refine wpDet_skip (by rfl) ?_; simp only [Act.put, List.setIfInBounds_toArray, List.set_cons_succ, List.set_cons_zero])
        | (apply wpDet_step
           · rfl
           · (intro wi hi K hK; have hc := (bcell hi).1; go_wp2_with fail
              all_goals first
              | exact hK _ hi
              | exact hi)
           · kernel_rfl))
      refine wpDet_nil (fun wi hi => ?_)
      have HPi := Lib.hid (HP12.out.keep HWH.out hi)
      clear HP12 gb hbxl hltl hdbl g0 g8
      have gi := HPi.out.free 13
      have gj := HPi.out.lt
      have gk := HPi.out.cell 13
      simp only [List.getElem?_toArray, List.getElem?_cons_succ, List.getElem?_cons_zero] at gk
      go_wp2_with fail
      have HPn := HPi.out.set 13 (.slice (some ⟨db, 16, none⟩) ((bytesB p).length - 16) (c - 16))
      simp only [List.setIfInBounds_toArray, List.set_cons_succ, List.set_cons_zero] at HPn
      have HP13 := Lib.hid HPn
      generalize wi.setCell { block := lt, off := 13, spot := none } _ = W13 at *
      clear hi gi gj gk HPi HPn
      have gb := HP13.out.box
      have hbxl := HP13.out.bx
      have hltl := HP13.out.lt
      have hdbl := HP13.out.db HWH.out
      have g0 : W13.cell? ⟨lt, 0, none⟩ = some (.slice (some ⟨db, 0, none⟩) (bytesB p).length c) := HP13.out.cell 0
      refine wp_region_dett (fun wi => Below W13.heap.size W13 wi) 7 _ (by kernel_rfl) (by kernel_rfl) (by kernel_rfl) rfl rfl (Below.refl _ _).drew ?_
      iterate 7 (first
        | (refine wpDet_skip (by rfl) ?_; simp only [Act.put, List.setIfInBounds_toArray, List.set_cons_succ, List.set_cons_zero])
        | (apply wpDet_step
           · rfl
           · (intro wi hi K hK; have hc := (bcell hi).1; go_wp2_with fail
              all_goals first
              | exact hK _ hi
              | exact hi)
           · kernel_rfl))
      refine wpDet_nil (fun wi hi => ?_)
      have HPi := Lib.hid (HP13.out.keep HWH.out hi)
      clear HP13 gb hbxl hltl hdbl g0
      have gi := HPi.out.free 16
      have gj := HPi.out.lt
      have gk := HPi.out.cell 16
      simp only [List.getElem?_toArray, List.getElem?_cons_succ, List.getElem?_cons_zero] at gk
      go_wp2_with fail
      have HPn := HPi.out.set 16 (.slice (some ⟨db, 0, none⟩) (bytesB p).length c)
      simp only [List.setIfInBounds_toArray, List.set_cons_succ, List.set_cons_zero] at HPn
      have HP14 := Lib.hid HPn
      generalize wi.setCell { block := lt, off := 16, spot := none } _ = W14 at *
      clear hi gi gj gk HPi HPn
      have gb := HP14.out.box
      have hbxl := HP14.out.bx
      have hltl := HP14.out.lt
      have hdbl := HP14.out.db HWH.out
      have g14 : W14.cell? ⟨lt, 14, none⟩ = some (.int .u32 nf) := HP14.out.cell 14
      have HC5 := Lib.hid (fun wi (hi : Below W14.heap.size W14 wi) => (show wi.cell? ⟨lt, 5, none⟩ = some (.int .i64 2) from (HP14.out.keep HWH.out hi).cell 5))
      have HC6 := Lib.hid (fun wi (hi : Below W14.heap.size W14 wi) => (show wi.cell? ⟨lt, 6, none⟩ = some (.bool p.big) from by rw [HBG.out]; exact (HP14.out.keep HWH.out hi).cell 6))
      have HC8 := Lib.hid (fun wi (hi : Below W14.heap.size W14 wi) => (show wi.cell? ⟨lt, 8, none⟩ = some (.int .u32 (wszN p)) from by rw [HZ_.out]; exact (HP14.out.keep HWH.out hi).cell 8))
      refine wp_region_det (fun wi => Below W14.heap.size W14 wi) (by kernel_rfl) (by kernel_rfl) (Below.refl _ _).drew ?_
      iterate 11 (first
        | (refine wpDet_skip (by rfl) ?_; simp only [Act.put, List.setIfInBounds_toArray, List.set_cons_succ, List.set_cons_zero])
        | (apply wpDet_step
           · rfl
           · (intro wi hi K hK; have hc := (bcell hi).1; go_wp2_with fail
              all_goals first
              | exact hK _ hi
              | exact hi
              | (go_at_call 64; (with_reducible refine Calls.mono (fieldSize_any lt p _ (HC5.out _ hi) (HC8.out _ hi)) ?_); rintro e w5 ⟨rfl, rfl⟩; rw [HZ_.out]; go_wp2_with fail; all_goals first | exact hK _ (hi) | exact hi))
           · kernel_rfl))
      refine wpDet_nil (fun wi hi => ?_)
      have HPi := Lib.hid (HP14.out.keep HWH.out hi)
      clear HP14 gb hbxl hltl hdbl g14 HC5 HC6 HC8
      go_wp2_with fail
      have HP15 := HPi
      clear hi HPi
      generalize wi = W15 at *
      obtain ⟨fts, hfts⟩ : ∃ fts, (2 * nf + 1) * 8 = fts := ⟨_, rfl⟩
      have hfi : ((nf : Int) * 2 + 1) * 8 = (fts : Int) := by omega
      rw [hfi]
      have HAFX : Hid (At (bytesB p) (16 + fts) (numB p.big fo 4)) := Lib.hid (by have := HAF.out; rw [HNF.out, HZ_.out, hfts] at this; exact this)
      rw [hfts] at hfo1
      have HFTS := Lib.hid hfts
      clear hfi hfts
      have gb := HP15.out.box
      have hbxl := HP15.out.bx
      have hltl := HP15.out.lt
      have hdbl := HP15.out.db HWH.out
      have g6 : W15.cell? ⟨lt, 6, none⟩ = some (.bool false) := HP15.out.cell 6
      have g13 : W15.cell? ⟨lt, 13, none⟩ = some (.slice (some ⟨db, 16, none⟩) ((bytesB p).length - 16) (c - 16)) := HP15.out.cell 13
      refine wp_region_det (fun wi => Below W15.heap.size W15 wi) (by kernel_rfl) (by kernel_rfl) (Below.refl _ _).drew ?_
      iterate 12 (first
        | (refine wpDet_skip (by rfl) ?_; simp only [Act.put, List.setIfInBounds_toArray, List.set_cons_succ, List.set_cons_zero])
        | (apply wpDet_step
           · rfl
           · (intro wi hi K hK; have hc := (bcell hi).1; go_wp2_with fail
              all_goals first
              | exact hK _ hi
              | exact hi
              | (go_at_call 50; (with_reducible refine Calls.mono (uint32_any _ db (16 + fts) _ _ (numB p.big fo 4) _ (numB_length _ _ _) ((HP15.out.keep HWH.out hi).mem.at HAFX.out) (by omega) (by omega)) ?_); rintro e w5 ⟨rfl, hb5⟩; rw [HBV.out _ (by omega)]; go_wp2_with fail; all_goals first | exact hK _ (below_next2 hi hb5) | exact below_next2 hi hb5))
           · kernel_rfl))
      refine wpDet_nil (fun wi hi => ?_)
      have HPi := Lib.hid (HP15.out.keep HWH.out hi)
      clear HP15 gb hbxl hltl hdbl g6 g13
      go_wp2_with fail
      have HP16 := HPi
      clear hi HPi
      generalize wi = W16 at *
      have gb := HP16.out.box
      have hbxl := HP16.out.bx
      have hltl := HP16.out.lt
      have hdbl := HP16.out.db HWH.out
      have g13 : W16.cell? ⟨lt, 13, none⟩ = some (.slice (some ⟨db, 16, none⟩) ((bytesB p).length - 16) (c - 16)) := HP16.out.cell 13
      refine wp_region_dett (fun wi => Below W16.heap.size W16 wi) 9 _ (by kernel_rfl) (by kernel_rfl) (by kernel_rfl) rfl rfl (Below.refl _ _).drew ?_
      iterate 9 (first
        | (refine wpDet_skip (by rfl) ?_; simp only [Act.put, List.setIfInBounds_toArray, List.set_cons_succ, List.set_cons_zero])
        | (apply wpDet_step
           · rfl
           · (intro wi hi K hK; have hc := (bcell hi).1; go_wp2_with fail
              all_goals first
              | exact hK _ hi
              | exact hi)
           · kernel_rfl))
      refine wpDet_nil (fun wi hi => ?_)
      have HPi := Lib.hid (HP16.out.keep HWH.out hi)
      clear HP16 gb hbxl hltl hdbl g13
      have gi := HPi.out.free 13
      have gj := HPi.out.lt
      have gk := HPi.out.cell 13
      simp only [List.getElem?_toArray, List.getElem?_cons_succ, List.getElem?_cons_zero] at gk
      go_wp2_with fail
      have HPn := HPi.out.set 13 (.slice (some ⟨db, 16, none⟩) fts (c - 16))
      simp only [List.setIfInBounds_toArray, List.set_cons_succ, List.set_cons_zero] at HPn
      have HP17 := Lib.hid HPn
      generalize wi.setCell { block := lt, off := 13, spot := none } _ = W17 at *
      clear hi gi gj gk HPi HPn
      have gb := HP17.out.box
      have hbxl := HP17.out.bx
      have hltl := HP17.out.lt
      have hdbl := HP17.out.db HWH.out
      have g0 : W17.cell? ⟨lt, 0, none⟩ = some (.slice (some ⟨db, 0, none⟩) (bytesB p).length c) := HP17.out.cell 0
      refine wp_region_dett (fun wi => Below W17.heap.size W17 wi) 9 _ (by kernel_rfl) (by kernel_rfl) (by kernel_rfl) rfl rfl (Below.refl _ _).drew ?_
      iterate 9 (first
        | (refine wpDet_skip (by rfl) ?_; simp only [Act.put, List.setIfInBounds_toArray, List.set_cons_succ, List.set_cons_zero])
        | (apply wpDet_step
           · rfl
           · (intro wi hi K hK; have hc := (bcell hi).1; go_wp2_with fail
              all_goals first
              | exact hK _ hi
              | exact hi)
           · kernel_rfl))
      refine wpDet_nil (fun wi hi => ?_)
      have HPi := Lib.hid (HP17.out.keep HWH.out hi)
      clear HP17 gb hbxl hltl hdbl g0
      have gi := HPi.out.free 15
      have gj := HPi.out.lt
      have gk := HPi.out.cell 15
      simp only [List.getElem?_toArray, List.getElem?_cons_succ, List.getElem?_cons_zero] at gk
      go_wp2_with fail
      have HPn := HPi.out.set 15 (.slice (some ⟨db, fo, none⟩) ((bytesB p).length - fo) (c - fo))
      simp only [List.setIfInBounds_toArray, List.set_cons_succ, List.set_cons_zero] at HPn
      have HP18 := Lib.hid HPn
      generalize wi.setCell { block := lt, off := 15, spot := none } _ = W18 at *
      clear hi gi gj gk HPi HPn
      have gb := HP18.out.box
      have hbxl := HP18.out.bx
      have hltl := HP18.out.lt
      have hdbl := HP18.out.db HWH.out
      have g6 : W18.cell? ⟨lt, 6, none⟩ = some (.bool false) := HP18.out.cell 6
      have g15 : W18.cell? ⟨lt, 15, none⟩ = some (.slice (some ⟨db, fo, none⟩) ((bytesB p).length - fo) (c - fo)) := HP18.out.cell 15
      refine wp_region_dett (fun wi => Below W18.heap.size W18 wi) 12 _ (by kernel_rfl) (by kernel_rfl) (by kernel_rfl) rfl rfl (Below.refl _ _).drew ?_
      iterate 12 (first
        | (refine wpDet_skip (by rfl) ?_; simp only [Act.put, List.setIfInBounds_toArray, List.set_cons_succ, List.set_cons_zero])
        | (apply wpDet_step
           · rfl
           · (intro wi hi K hK; have hc := (bcell hi).1; go_wp2_with fail
              all_goals first
              | exact hK _ hi
              | exact hi
              | (go_at_call 50; (with_reducible refine Calls.mono (uint32_any _ db (fo) _ _ (numB p.big nl 4) _ (numB_length _ _ _) ((HP18.out.keep HWH.out hi).mem.at HAN.out) (by omega) (by omega)) ?_); rintro e w5 ⟨rfl, hb5⟩; rw [HBV.out _ (by omega)]; go_wp2_with fail; all_goals first | exact hK _ (below_next2 hi hb5) | exact below_next2 hi hb5))
           · kernel_rfl))
      refine wpDet_nil (fun wi hi => ?_)
      have HPi := Lib.hid (HP18.out.keep HWH.out hi)
      clear HP18 gb hbxl hltl hdbl g6 g15
      have gi := HPi.out.free 17
      have gj := HPi.out.lt
      have gk := HPi.out.cell 17
      simp only [List.getElem?_toArray, List.getElem?_cons_succ, List.getElem?_cons_zero] at gk
      go_wp2_with fail
      have HPn := HPi.out.set 17 (.int .u32 nl)
      simp only [List.setIfInBounds_toArray, List.set_cons_succ, List.set_cons_zero] at HPn
      have HP19 := Lib.hid HPn
      generalize wi.setCell { block := lt, off := 17, spot := none } _ = W19 at *
      clear hi gi gj gk HPi HPn
      have gb := HP19.out.box
      have hbxl := HP19.out.bx
      have hltl := HP19.out.lt
      have hdbl := HP19.out.db HWH.out
      have g15 : W19.cell? ⟨lt, 15, none⟩ = some (.slice (some ⟨db, fo, none⟩) ((bytesB p).length - fo) (c - fo)) := HP19.out.cell 15
      have g17 : W19.cell? ⟨lt, 17, none⟩ = some (.int .u32 nl) := HP19.out.cell 17
      refine wp_region_dett (fun wi => Below W19.heap.size W19 wi) 13 _ (by kernel_rfl) (by kernel_rfl) (by kernel_rfl) rfl rfl (Below.refl _ _).drew ?_
      iterate 13 (first
        | (refine wpDet_skip (by rfl) ?_; simp only [Act.put, List.setIfInBounds_toArray, List.set_cons_succ, List.set_cons_zero])
        | (apply wpDet_step
           · rfl
           · (intro wi hi K hK; have hc := (bcell hi).1; go_wp2_with fail
              all_goals first
              | exact hK _ hi
              | exact hi)
           · kernel_rfl))
      refine wpDet_nil (fun wi hi => ?_)
      have HPi := Lib.hid (HP19.out.keep HWH.out hi)
      clear HP19 gb hbxl hltl hdbl g15 g17
      have gi := HPi.out.free 15
      have gj := HPi.out.lt
      have gk := HPi.out.cell 15
      simp only [List.getElem?_toArray, List.getElem?_cons_succ, List.getElem?_cons_zero] at gk
      go_wp2_with fail
      have HPn := HPi.out.set 15 (.slice (some ⟨db, fo, none⟩) (nl * 4) (c - fo))
      simp only [List.setIfInBounds_toArray, List.set_cons_succ, List.set_cons_zero] at HPn
      have HP20 := Lib.hid HPn
      generalize wi.setCell { block := lt, off := 15, spot := none } _ = W20 at *
      clear hi gi gj gk HPi HPn
      have gi : W20.cell? ⟨lt, 3, none⟩ = some (.int .i32 1) := HP20.out.cell 3
      have gf := HP20.out.free 3
      have HPf := Lib.hid (HP20.out.set 3 (.int .i32 0))
      simp only [List.setIfInBounds_toArray, List.set_cons_succ, List.set_cons_zero] at HPf
      refine leaves_cons (f := 60) (args := #[]) (by simp) (by simp [go_sem]) ?_
      refine (catchParse_idle _).mono ?_
      rintro e u' w'' ⟨rfl, rfl, rfl⟩
      refine leaves_cons (f := 59) (args := #[.pointer (some ⟨lt, 3, none⟩)]) (by simp [settle]) (by simp [go_sem]) ?_
      refine (Go.MuLone.unlock_deferred muLib ⟨lt, 3, none⟩ _ _ gi gf).mono ?_
      rintro e u' w'' ⟨rfl, rfl, rfl⟩
      simp [Leaves, settle, results, Try.results43, go_sem]
      refine ⟨HPf.out.fr, HPf.out.row.trans ?_⟩
      simp only [rowE, rowL, ftV, filV, bytesV]
      rw [HBG.out, HQ.out, HZ_.out, HNF.out, HFO.out, HNL.out, HFTS.out]
      rfl
    · skip
      rw [hz] at hfo1
      have HBV := HB _ hbig.symm
      have HZ_ := Lib.hid hz
      have HBG := Lib.hid hbig
      rw [hbig] at HP5
      clear HV H1 H2 HB hz hbig
      go_upto_region 26 with fail
      generalize W4.setCell { block := lt, off := 6, spot := none } _ = W5 at *
      clear gb f5 f6 h5 h6
      have gb := HP5.out.box
      have f5 := HP5.out.free 5
      have h5 : W5.cell? ⟨lt, 5, none⟩ = some (.int .i64 1) := HP5.out.cell 5
      have hbxl := HP5.out.bx
      have hltl := HP5.out.lt
      go_wp2_with fail
      have HP6 := Lib.hid (HP5.out.set 5 (.int .i64 2))
      simp only [List.setIfInBounds_toArray, List.set_cons_succ, List.set_cons_zero] at HP6
      generalize W5.setCell { block := lt, off := 5, spot := none } _ = W6 at *
      clear gb f5 h5 HP5 hbxl hltl
      have gb := HP6.out.box
      have hbxl := HP6.out.bx
      have hltl := HP6.out.lt
      have hdbl := HP6.out.db HWH.out
      have g0 : W6.cell? ⟨lt, 0, none⟩ = some (.slice (some ⟨db, 0, none⟩) (bytesB p).length c) := HP6.out.cell 0
      obtain ⟨_, _, k6, k7⟩ := head_bytes HP6.out.mem
      rw [HQN.out] at k6
      rw [HZ_.out] at k7
      have k6' : W6.cell? ⟨db, 6, none⟩ = some (.int .u8 qn) := by rw [k6]; exact congrArg (fun z : Nat => some (Value.int .u8 z)) (by rw [UInt8.toNat_ofNat']; omega)
      have k7' : W6.cell? ⟨db, 7, none⟩ = some (.int .u8 (4 : Nat)) := k7
      clear k6 k7
      have i6 : (6 : Int) < ((bytesB p).length : Int) := by omega
      have i7 : (7 : Int) < ((bytesB p).length : Int) := by omega
      refine wp_region_dett (fun wi => Below W6.heap.size W6 wi) 10 _ (by kernel_rfl) (by kernel_rfl) (by kernel_rfl) rfl rfl (Below.refl _ _).drew ?_
      iterate 10 (first
        | (refine wpDet_skip (by rfl) ?_; simp only [Act.put, List.setIfInBounds_toArray, List.set_cons_succ, List.set_cons_zero])
        | (apply wpDet_step
           · rfl
           · (intro wi hi K hK; have hc := (bcell hi).1; go_wp2_with fail
              all_goals first
              | exact hK _ hi
              | exact hi)
           · kernel_rfl))
      refine wpDet_nil (fun wi hi => ?_)
      have HPi := Lib.hid (HP6.out.keep HWH.out hi)
      clear HP6 gb hbxl hltl hdbl g0 k6' k7' i6 i7
      have gi := HPi.out.free 7
      have gj := HPi.out.lt
      have gk := HPi.out.cell 7
      simp only [List.getElem?_toArray, List.getElem?_cons_succ, List.getElem?_cons_zero] at gk
      go_wp2_with fail
      have HPn := HPi.out.set 7 (.int .u32 qn)
      simp only [List.setIfInBounds_toArray, List.set_cons_succ, List.set_cons_zero] at HPn
      have HP7 := Lib.hid HPn
      generalize wi.setCell { block := lt, off := 7, spot := none } _ = W7 at *
      clear hi gi gj gk HPi HPn
      have gb := HP7.out.box
      have hbxl := HP7.out.bx
      have hltl := HP7.out.lt
      have hdbl := HP7.out.db HWH.out
      have g0 : W7.cell? ⟨lt, 0, none⟩ = some (.slice (some ⟨db, 0, none⟩) (bytesB p).length c) := HP7.out.cell 0
      obtain ⟨_, _, k6, k7⟩ := head_bytes HP7.out.mem
      rw [HQN.out] at k6
      rw [HZ_.out] at k7
      have k6' : W7.cell? ⟨db, 6, none⟩ = some (.int .u8 qn) := by rw [k6]; exact congrArg (fun z : Nat => some (Value.int .u8 z)) (by rw [UInt8.toNat_ofNat']; omega)
      have k7' : W7.cell? ⟨db, 7, none⟩ = some (.int .u8 (4 : Nat)) := k7
      clear k6 k7
      have i6 : (6 : Int) < ((bytesB p).length : Int) := by omega
      have i7 : (7 : Int) < ((bytesB p).length : Int) := by omega
      refine wp_region_dett (fun wi => Below W7.heap.size W7 wi) 10 _ (by kernel_rfl) (by kernel_rfl) (by kernel_rfl) rfl rfl (Below.refl _ _).drew ?_
      iterate 10 (first
        | (refine wpDet_skip (by rfl) ?_; simp only [Act.put, List.setIfInBounds_toArray, List.set_cons_succ, List.set_cons_zero])
        | (apply wpDet_step
           · rfl
           · (intro wi hi K hK; have hc := (bcell hi).1; go_wp2_with fail
              all_goals first
              | exact hK _ hi
              | exact hi)
           · kernel_rfl))
      refine wpDet_nil (fun wi hi => ?_)
      have HPi := Lib.hid (HP7.out.keep HWH.out hi)
      clear HP7 gb hbxl hltl hdbl g0 k6' k7' i6 i7
      have gi := HPi.out.free 8
      have gj := HPi.out.lt
      have gk := HPi.out.cell 8
      simp only [List.getElem?_toArray, List.getElem?_cons_succ, List.getElem?_cons_zero] at gk
      go_upto_region 29 with fail
      have HPn := HPi.out.set 8 (.int .u32 4)
      simp only [List.setIfInBounds_toArray, List.set_cons_succ, List.set_cons_zero] at HPn
      have HP8 := Lib.hid HPn
      generalize wi.setCell { block := lt, off := 8, spot := none } _ = W8 at *
      clear hi gi gj gk HPi HPn
      have hsz8 := HP8.out.bx
      go_wp2_with fail
      generalize hW9 : W8.alloc _ = W9
      have HP9 := Lib.hid (HP8.out.alloc HWH.out _ hW9)
      clear hW9 HP8
      have gb := HP9.out.box
      have hbxl := HP9.out.bx
      have hltl := HP9.out.lt
      have hdbl := HP9.out.db HWH.out
      have g0 : W9.cell? ⟨lt, 0, none⟩ = some (.slice (some ⟨db, 0, none⟩) (bytesB p).length c) := HP9.out.cell 0
      have HC5 := Lib.hid (fun wi (hi : Below W9.heap.size W9 wi) => (show wi.cell? ⟨lt, 5, none⟩ = some (.int .i64 2) from (HP9.out.keep HWH.out hi).cell 5))
      have HC6 := Lib.hid (fun wi (hi : Below W9.heap.size W9 wi) => (show wi.cell? ⟨lt, 6, none⟩ = some (.bool p.big) from by rw [HBG.out]; exact (HP9.out.keep HWH.out hi).cell 6))
      have HC8 := Lib.hid (fun wi (hi : Below W9.heap.size W9 wi) => (show wi.cell? ⟨lt, 8, none⟩ = some (.int .u32 (wszN p)) from by rw [HZ_.out]; exact (HP9.out.keep HWH.out hi).cell 8))
      refine wp_region_dett (fun wi => Below W9.heap.size W9 wi) 11 _ (by kernel_rfl) (by kernel_rfl) (by kernel_rfl) rfl rfl (Below.refl _ _).drew ?_
      iterate 11 (first
        | (refine wpDet_skip (by rfl) ?_; simp only [Act.put, List.setIfInBounds_toArray, List.set_cons_succ, List.set_cons_zero])
        | (apply wpDet_step
           · rfl
           · (intro wi hi K hK; have hc := (bcell hi).1; go_wp2_with fail
              all_goals first
              | exact hK _ hi
              | exact hi
              | (go_at_call 62; (with_reducible refine Calls.mono (uintptr_any lt db p 8 _ _ nf _ (HC6.out _ hi) (HC8.out _ hi) ((HP9.out.keep HWH.out hi).mem.at HAC.out) (by omega) (by rw [HZ_.out]; omega) (by omega)) ?_); rintro e w5 ⟨rfl, hb5⟩; go_wp2_with fail; all_goals first | exact hK _ (below_next2 hi hb5) | exact below_next2 hi hb5))
           · kernel_rfl))
      refine wpDet_nil (fun wi hi => ?_)
      have HPi := Lib.hid (HP9.out.keep HWH.out hi)
      clear HP9 gb hbxl hltl hdbl g0 HC5 HC6 HC8
      have gi := HPi.out.free 14
      have gj := HPi.out.lt
      have gk := HPi.out.cell 14
      simp only [List.getElem?_toArray, List.getElem?_cons_succ, List.getElem?_cons_zero] at gk
      go_wp2_with fail
      have HPn := HPi.out.set 14 (.int .u32 nf)
      simp only [List.setIfInBounds_toArray, List.set_cons_succ, List.set_cons_zero] at HPn
      have HP10 := Lib.hid HPn
      generalize wi.setCell { block := lt, off := 14, spot := none } _ = W10 at *
      clear hi gi gj gk HPi HPn
      have gb := HP10.out.box
      have hbxl := HP10.out.bx
      have hltl := HP10.out.lt
      have hdbl := HP10.out.db HWH.out
      have g0 : W10.cell? ⟨lt, 0, none⟩ = some (.slice (some ⟨db, 0, none⟩) (bytesB p).length c) := HP10.out.cell 0
      refine wp_region_dett (fun wi => Below W10.heap.size W10 wi) 7 _ (by kernel_rfl) (by kernel_rfl) (by kernel_rfl) rfl rfl (Below.refl _ _).drew ?_
      iterate 7 (first
        | (refine wpDet_skip (by rfl) ?_; simp only [Act.put, List.setIfInBounds_toArray, List.set_cons_succ, List.set_cons_zero])
        | (apply wpDet_step
           · rfl
           · (intro wi hi K hK; have hc := (bcell hi).1; go_wp2_with fail
              all_goals first
              | exact hK _ hi
              | exact hi)
           · kernel_rfl))
      refine wpDet_nil (fun wi hi => ?_)
      have HPi := Lib.hid (HP10.out.keep HWH.out hi)
      clear HP10 gb hbxl hltl hdbl g0
      have gi := HPi.out.free 12
      have gj := HPi.out.lt
      have gk := HPi.out.cell 12
      simp only [List.getElem?_toArray, List.getElem?_cons_succ, List.getElem?_cons_zero] at gk
      go_wp2_with fail
      have HPn := HPi.out.set 12 (.slice (some ⟨db, 0, none⟩) (bytesB p).length c)
      simp only [List.setIfInBounds_toArray, List.set_cons_succ, List.set_cons_zero] at HPn
      have HP11 := Lib.hid HPn
      generalize wi.setCell { block := lt, off := 12, spot := none } _ = W11 at *
      clear hi gi gj gk HPi HPn
      have gb := HP11.out.box
      have hbxl := HP11.out.bx
      have hltl := HP11.out.lt
      have hdbl := HP11.out.db HWH.out
      have g0 : W11.cell? ⟨lt, 0, none⟩ = some (.slice (some ⟨db, 0, none⟩) (bytesB p).length c) := HP11.out.cell 0
      refine wp_region_dett (fun wi => Below W11.heap.size W11 wi) 7 _ (by kernel_rfl) (by kernel_rfl) (by kernel_rfl) rfl rfl (Below.refl _ _).drew ?_
      iterate 7 (first
        | (refine wpDet_skip (by rfl) ?_; simp only [Act.put, List.setIfInBounds_toArray, List.set_cons_succ, List.set_cons_zero])
        | (apply wpDet_step
           · rfl
           · (intro wi hi K hK; have hc := (bcell hi).1; go_wp2_with fail
              all_goals first
              | exact hK _ hi
              | exact hi)
           · kernel_rfl))
      refine wpDet_nil (fun wi hi => ?_)
      have HPi := Lib.hid (HP11.out.keep HWH.out hi)
      clear HP11 gb hbxl hltl hdbl g0
      have gi := HPi.out.free 10
      have gj := HPi.out.lt
      have gk := HPi.out.cell 10
      simp only [List.getElem?_toArray, List.getElem?_cons_succ, List.getElem?_cons_zero] at gk
      go_wp2_with fail
      have HPn := HPi.out.set 10 (.slice (some ⟨db, 0, none⟩) (bytesB p).length c)
      simp only [List.setIfInBounds_toArray, List.set_cons_succ, List.set_cons_zero] at HPn
      have HP12 := Lib.hid HPn
      generalize wi.setCell { block := lt, off := 10, spot := none } _ = W12 at *
      clear hi gi gj gk HPi HPn
      have gb := HP12.out.box
      have hbxl := HP12.out.bx
      have hltl := HP12.out.lt
      have hdbl := HP12.out.db HWH.out
      have g0 : W12.cell? ⟨lt, 0, none⟩ = some (.slice (some ⟨db, 0, none⟩) (bytesB p).length c) := HP12.out.cell 0
      have g8 : W12.cell? ⟨lt, 8, none⟩ = some (.int .u32 4) := HP12.out.cell 8
      refine wp_region_dett (fun wi => Below W12.heap.size W12 wi) 13 _ (by kernel_rfl) (by kernel_rfl) (by kernel_rfl) rfl rfl (Below.refl _ _).drew ?_
      iterate 13 (first
        | (refine wpDet_skip (by rfl) ?_; simp only [Act.put, List.setIfInBounds_toArray, List.set_cons_succ, List.set_cons_zero])
        | (apply wpDet_step
           · rfl
           · (intro wi hi K hK; have hc := (bcell hi).1; go_wp2_with fail
              all_goals first
              | exact hK _ hi
              | exact hi)
           · kernel_rfl))
      refine wpDet_nil (fun wi hi => ?_)
      have HPi := Lib.hid (HP12.out.keep HWH.out hi)
      clear HP12 gb hbxl hltl hdbl g0 g8
      have gi := HPi.out.free 13
      have gj := HPi.out.lt
      have gk := HPi.out.cell 13
      simp only [List.getElem?_toArray, List.getElem?_cons_succ, List.getElem?_cons_zero] at gk
      go_wp2_with fail
      have HPn := HPi.out.set 13 (.slice (some ⟨db, 12, none⟩) ((bytesB p).length - 12) (c - 12))
      simp only [List.setIfInBounds_toArray, List.set_cons_succ, List.set_cons_zero] at HPn
      have HP13 := Lib.hid HPn
      generalize wi.setCell { block := lt, off := 13, spot := none } _ = W13 at *
      clear hi gi gj gk HPi HPn
      have gb := HP13.out.box
      have hbxl := HP13.out.bx
      have hltl := HP13.out.lt
      have hdbl := HP13.out.db HWH.out
      have g0 : W13.cell? ⟨lt, 0, none⟩ = some (.slice (some ⟨db, 0, none⟩) (bytesB p).length c) := HP13.out.cell 0
      refine wp_region_dett (fun wi => Below W13.heap.size W13 wi) 7 _ (by kernel_rfl) (by kernel_rfl) (by kernel_rfl) rfl rfl (Below.refl _ _).drew ?_
      iterate 7 (first
        | (refine wpDet_skip (by rfl) ?_; simp only [Act.put, List.setIfInBounds_toArray, List.set_cons_succ, List.set_cons_zero])
        | (apply wpDet_step
           · rfl
           · (intro wi hi K hK; have hc := (bcell hi).1; go_wp2_with fail
              all_goals first
              | exact hK _ hi
              | exact hi)
           · kernel_rfl))
      refine wpDet_nil (fun wi hi => ?_)
      have HPi := Lib.hid (HP13.out.keep HWH.out hi)
      clear HP13 gb hbxl hltl hdbl g0
      have gi := HPi.out.free 16
      have gj := HPi.out.lt
      have gk := HPi.out.cell 16
      simp only [List.getElem?_toArray, List.getElem?_cons_succ, List.getElem?_cons_zero] at gk
      go_wp2_with fail
      have HPn := HPi.out.set 16 (.slice (some ⟨db, 0, none⟩) (bytesB p).length c)
      simp only [List.setIfInBounds_toArray, List.set_cons_succ, List.set_cons_zero] at HPn
      have HP14 := Lib.hid HPn
      generalize wi.setCell { block := lt, off := 16, spot := none } _ = W14 at *
      clear hi gi gj gk HPi HPn
      have gb := HP14.out.box
      have hbxl := HP14.out.bx
      have hltl := HP14.out.lt
      have hdbl := HP14.out.db HWH.out
      have g14 : W14.cell? ⟨lt, 14, none⟩ = some (.int .u32 nf) := HP14.out.cell 14
      have HC5 := Lib.hid (fun wi (hi : Below W14.heap.size W14 wi) => (show wi.cell? ⟨lt, 5, none⟩ = some (.int .i64 2) from (HP14.out.keep HWH.out hi).cell 5))
      have HC6 := Lib.hid (fun wi (hi : Below W14.heap.size W14 wi) => (show wi.cell? ⟨lt, 6, none⟩ = some (.bool p.big) from by rw [HBG.out]; exact (HP14.out.keep HWH.out hi).cell 6))
      have HC8 := Lib.hid (fun wi (hi : Below W14.heap.size W14 wi) => (show wi.cell? ⟨lt, 8, none⟩ = some (.int .u32 (wszN p)) from by rw [HZ_.out]; exact (HP14.out.keep HWH.out hi).cell 8))
      refine wp_region_det (fun wi => Below W14.heap.size W14 wi) (by kernel_rfl) (by kernel_rfl) (Below.refl _ _).drew ?_
      iterate 11 (first
        | (refine wpDet_skip (by rfl) ?_; simp only [Act.put, List.setIfInBounds_toArray, List.set_cons_succ, List.set_cons_zero])
        | (apply wpDet_step
           · rfl
           · (intro wi hi K hK; have hc := (bcell hi).1; go_wp2_with fail
              all_goals first
              | exact hK _ hi
              | exact hi
              | (go_at_call 64; (with_reducible refine Calls.mono (fieldSize_any lt p _ (HC5.out _ hi) (HC8.out _ hi)) ?_); rintro e w5 ⟨rfl, rfl⟩; rw [HZ_.out]; go_wp2_with fail; all_goals first | exact hK _ (hi) | exact hi))
           · kernel_rfl))
      refine wpDet_nil (fun wi hi => ?_)
      have HPi := Lib.hid (HP14.out.keep HWH.out hi)
      clear HP14 gb hbxl hltl hdbl g14 HC5 HC6 HC8
      go_wp2_with fail
      have HP15 := HPi
      clear hi HPi
      generalize wi = W15 at *
      obtain ⟨fts, hfts⟩ : ∃ fts, (2 * nf + 1) * 4 = fts := ⟨_, rfl⟩
      have hfi : ((nf : Int) * 2 + 1) * 4 = (fts : Int) := by omega
      rw [hfi]
      have HAFX : Hid (At (bytesB p) (12 + fts) (numB p.big fo 4)) := Lib.hid (by have := HAF.out; rw [HNF.out, HZ_.out, hfts] at this; exact this)
      rw [hfts] at hfo1
      have HFTS := Lib.hid hfts
      clear hfi hfts
      have gb := HP15.out.box
      have hbxl := HP15.out.bx
      have hltl := HP15.out.lt
      have hdbl := HP15.out.db HWH.out
      have g6 : W15.cell? ⟨lt, 6, none⟩ = some (.bool false) := HP15.out.cell 6
      have g13 : W15.cell? ⟨lt, 13, none⟩ = some (.slice (some ⟨db, 12, none⟩) ((bytesB p).length - 12) (c - 12)) := HP15.out.cell 13
      refine wp_region_det (fun wi => Below W15.heap.size W15 wi) (by kernel_rfl) (by kernel_rfl) (Below.refl _ _).drew ?_
      iterate 12 (first
        | (refine wpDet_skip (by rfl) ?_; simp only [Act.put, List.setIfInBounds_toArray, List.set_cons_succ, List.set_cons_zero])
        | (apply wpDet_step
           · rfl
           · (intro wi hi K hK; have hc := (bcell hi).1; go_wp2_with fail
              all_goals first
              | exact hK _ hi
              | exact hi
              | (go_at_call 50; (with_reducible refine Calls.mono (uint32_any _ db (12 + fts) _ _ (numB p.big fo 4) _ (numB_length _ _ _) ((HP15.out.keep HWH.out hi).mem.at HAFX.out) (by omega) (by omega)) ?_); rintro e w5 ⟨rfl, hb5⟩; rw [HBV.out _ (by omega)]; go_wp2_with fail; all_goals first | exact hK _ (below_next2 hi hb5) | exact below_next2 hi hb5))
           · kernel_rfl))
      refine wpDet_nil (fun wi hi => ?_)
      have HPi := Lib.hid (HP15.out.keep HWH.out hi)
      clear HP15 gb hbxl hltl hdbl g6 g13
      go_wp2_with fail
      have HP16 := HPi
      clear hi HPi
      generalize wi = W16 at *
      have gb := HP16.out.box
      have hbxl := HP16.out.bx
      have hltl := HP16.out.lt
      have hdbl := HP16.out.db HWH.out
      have g13 : W16.cell? ⟨lt, 13, none⟩ = some (.slice (some ⟨db, 12, none⟩) ((bytesB p).length - 12) (c - 12)) := HP16.out.cell 13
      refine wp_region_dett (fun wi => Below W16.heap.size W16 wi) 9 _ (by kernel_rfl) (by kernel_rfl) (by kernel_rfl) rfl rfl (Below.refl _ _).drew ?_
      iterate 9 (first
        | (refine wpDet_skip (by rfl) ?_; simp only [Act.put, List.setIfInBounds_toArray, List.set_cons_succ, List.set_cons_zero])
        | (apply wpDet_step
           · rfl
           · (intro wi hi K hK; have hc := (bcell hi).1; go_wp2_with fail
              all_goals first
              | exact hK _ hi
              | exact hi)
           · kernel_rfl))
      refine wpDet_nil (fun wi hi => ?_)
      have HPi := Lib.hid (HP16.out.keep HWH.out hi)
      clear HP16 gb hbxl hltl hdbl g13
      have gi := HPi.out.free 13
      have gj := HPi.out.lt
      have gk := HPi.out.cell 13
      simp only [List.getElem?_toArray, List.getElem?_cons_succ, List.getElem?_cons_zero] at gk
      go_wp2_with fail
      have HPn := HPi.out.set 13 (.slice (some ⟨db, 12, none⟩) fts (c - 12))
      simp only [List.setIfInBounds_toArray, List.set_cons_succ, List.set_cons_zero] at HPn
      have HP17 := Lib.hid HPn
      generalize wi.setCell { block := lt, off := 13, spot := none } _ = W17 at *
      clear hi gi gj gk HPi HPn
      have gb := HP17.out.box
      have hbxl := HP17.out.bx
      have hltl := HP17.out.lt
      have hdbl := HP17.out.db HWH.out
      have g0 : W17.cell? ⟨lt, 0, none⟩ = some (.slice (some ⟨db, 0, none⟩) (bytesB p).length c) := HP17.out.cell 0
      refine wp_region_dett (fun wi => Below W17.heap.size W17 wi) 9 _ (by kernel_rfl) (by kernel_rfl) (by kernel_rfl) rfl rfl (Below.refl _ _).drew ?_
      iterate 9 (first
        | (refine wpDet_skip (by rfl) ?_; simp only [Act.put, List.setIfInBounds_toArray, List.set_cons_succ, List.set_cons_zero])
        | (apply wpDet_step
           · rfl
           · (intro wi hi K hK; have hc := (bcell hi).1; go_wp2_with fail
              all_goals first
              | exact hK _ hi
              | exact hi)
           · kernel_rfl))
      refine wpDet_nil (fun wi hi => ?_)
      have HPi := Lib.hid (HP17.out.keep HWH.out hi)
      clear HP17 gb hbxl hltl hdbl g0
      have gi := HPi.out.free 15
      have gj := HPi.out.lt
      have gk := HPi.out.cell 15
      simp only [List.getElem?_toArray, List.getElem?_cons_succ, List.getElem?_cons_zero] at gk
      go_wp2_with fail
      have HPn := HPi.out.set 15 (.slice (some ⟨db, fo, none⟩) ((bytesB p).length - fo) (c - fo))
      simp only [List.setIfInBounds_toArray, List.set_cons_succ, List.set_cons_zero] at HPn
      have HP18 := Lib.hid HPn
      generalize wi.setCell { block := lt, off := 15, spot := none } _ = W18 at *
      clear hi gi gj gk HPi HPn
      have gb := HP18.out.box
      have hbxl := HP18.out.bx
      have hltl := HP18.out.lt
      have hdbl := HP18.out.db HWH.out
      have g6 : W18.cell? ⟨lt, 6, none⟩ = some (.bool false) := HP18.out.cell 6
      have g15 : W18.cell? ⟨lt, 15, none⟩ = some (.slice (some ⟨db, fo, none⟩) ((bytesB p).length - fo) (c - fo)) := HP18.out.cell 15
      refine wp_region_dett (fun wi => Below W18.heap.size W18 wi) 12 _ (by kernel_rfl) (by kernel_rfl) (by kernel_rfl) rfl rfl (Below.refl _ _).drew ?_
      iterate 12 (first
        | (refine wpDet_skip (by rfl) ?_; simp only [Act.put, List.setIfInBounds_toArray, List.set_cons_succ, List.set_cons_zero])
        | (apply wpDet_step
           · rfl
           · (intro wi hi K hK; have hc := (bcell hi).1; go_wp2_with fail
              all_goals first
              | exact hK _ hi
              | exact hi
              | (go_at_call 50; (with_reducible refine Calls.mono (uint32_any _ db (fo) _ _ (numB p.big nl 4) _ (numB_length _ _ _) ((HP18.out.keep HWH.out hi).mem.at HAN.out) (by omega) (by omega)) ?_); rintro e w5 ⟨rfl, hb5⟩; rw [HBV.out _ (by omega)]; go_wp2_with fail; all_goals first | exact hK _ (below_next2 hi hb5) | exact below_next2 hi hb5))
           · kernel_rfl))
      refine wpDet_nil (fun wi hi => ?_)
      have HPi := Lib.hid (HP18.out.keep HWH.out hi)
      clear HP18 gb hbxl hltl hdbl g6 g15
      have gi := HPi.out.free 17
      have gj := HPi.out.lt
      have gk := HPi.out.cell 17
      simp only [List.getElem?_toArray, List.getElem?_cons_succ, List.getElem?_cons_zero] at gk
      go_wp2_with fail
      have HPn := HPi.out.set 17 (.int .u32 nl)
      simp only [List.setIfInBounds_toArray, List.set_cons_succ, List.set_cons_zero] at HPn
      have HP19 := Lib.hid HPn
      generalize wi.setCell { block := lt, off := 17, spot := none } _ = W19 at *
      clear hi gi gj gk HPi HPn
      have gb := HP19.out.box
      have hbxl := HP19.out.bx
      have hltl := HP19.out.lt
      have hdbl := HP19.out.db HWH.out
      have g15 : W19.cell? ⟨lt, 15, none⟩ = some (.slice (some ⟨db, fo, none⟩) ((bytesB p).length - fo) (c - fo)) := HP19.out.cell 15
      have g17 : W19.cell? ⟨lt, 17, none⟩ = some (.int .u32 nl) := HP19.out.cell 17
      refine wp_region_dett (fun wi => Below W19.heap.size W19 wi) 13 _ (by kernel_rfl) (by kernel_rfl) (by kernel_rfl) rfl rfl (Below.refl _ _).drew ?_
      iterate 13 (first
        | (refine wpDet_skip (by rfl) ?_; simp only [Act.put, List.setIfInBounds_toArray, List.set_cons_succ, List.set_cons_zero])
        | (apply wpDet_step
           · rfl
           · (intro wi hi K hK; have hc := (bcell hi).1; go_wp2_with fail
              all_goals first
              | exact hK _ hi
              | exact hi)
           · kernel_rfl))
      refine wpDet_nil (fun wi hi => ?_)
      have HPi := Lib.hid (HP19.out.keep HWH.out hi)
      clear HP19 gb hbxl hltl hdbl g15 g17
      have gi := HPi.out.free 15
      have gj := HPi.out.lt
      have gk := HPi.out.cell 15
      simp only [List.getElem?_toArray, List.getElem?_cons_succ, List.getElem?_cons_zero] at gk
      go_wp2_with fail
      have HPn := HPi.out.set 15 (.slice (some ⟨db, fo, none⟩) (nl * 4) (c - fo))
      simp only [List.setIfInBounds_toArray, List.set_cons_succ, List.set_cons_zero] at HPn
      have HP20 := Lib.hid HPn
      generalize wi.setCell { block := lt, off := 15, spot := none } _ = W20 at *
      clear hi gi gj gk HPi HPn
      have gi : W20.cell? ⟨lt, 3, none⟩ = some (.int .i32 1) := HP20.out.cell 3
      have gf := HP20.out.free 3
      have HPf := Lib.hid (HP20.out.set 3 (.int .i32 0))
      simp only [List.setIfInBounds_toArray, List.set_cons_succ, List.set_cons_zero] at HPf
      refine leaves_cons (f := 60) (args := #[]) (by simp) (by simp [go_sem]) ?_
      refine (catchParse_idle _).mono ?_
      rintro e u' w'' ⟨rfl, rfl, rfl⟩
      refine leaves_cons (f := 59) (args := #[.pointer (some ⟨lt, 3, none⟩)]) (by simp [settle]) (by simp [go_sem]) ?_
      refine (Go.MuLone.unlock_deferred muLib ⟨lt, 3, none⟩ _ _ gi gf).mono ?_
      rintro e u' w'' ⟨rfl, rfl, rfl⟩
      simp [Leaves, settle, results, Try.results43, go_sem]
      refine ⟨HPf.out.fr, HPf.out.row.trans ?_⟩
      simp only [rowE, rowL, ftV, filV, bytesV]
      rw [HBG.out, HQ.out, HZ_.out, HNF.out, HFO.out, HNL.out, HFTS.out]
      rfl
    · skip
      rw [hz] at hfo1
      have HBV := HB _ hbig.symm
      have HZ_ := Lib.hid hz
      have HBG := Lib.hid hbig
      rw [hbig] at HP5
      clear HV H1 H2 HB hz hbig
      go_upto_region 26 with fail
      generalize W4.setCell { block := lt, off := 6, spot := none } _ = W5 at *
      clear gb f5 f6 h5 h6
      have gb := HP5.out.box
      have f5 := HP5.out.free 5
      have h5 : W5.cell? ⟨lt, 5, none⟩ = some (.int .i64 1) := HP5.out.cell 5
      have hbxl := HP5.out.bx
      have hltl := HP5.out.lt
      go_wp2_with fail
      have HP6 := Lib.hid (HP5.out.set 5 (.int .i64 2))
      simp only [List.setIfInBounds_toArray, List.set_cons_succ, List.set_cons_zero] at HP6
      generalize W5.setCell { block := lt, off := 5, spot := none } _ = W6 at *
      clear gb f5 h5 HP5 hbxl hltl
      have gb := HP6.out.box
      have hbxl := HP6.out.bx
      have hltl := HP6.out.lt
      have hdbl := HP6.out.db HWH.out
      have g0 : W6.cell? ⟨lt, 0, none⟩ = some (.slice (some ⟨db, 0, none⟩) (bytesB p).length c) := HP6.out.cell 0
      obtain ⟨_, _, k6, k7⟩ := head_bytes HP6.out.mem
      rw [HQN.out] at k6
      rw [HZ_.out] at k7
      have k6' : W6.cell? ⟨db, 6, none⟩ = some (.int .u8 qn) := by rw [k6]; exact congrArg (fun z : Nat => some (Value.int .u8 z)) (by rw [UInt8.toNat_ofNat']; omega)
      have k7' : W6.cell? ⟨db, 7, none⟩ = some (.int .u8 (8 : Nat)) := k7
      clear k6 k7
      have i6 : (6 : Int) < ((bytesB p).length : Int) := by omega
      have i7 : (7 : Int) < ((bytesB p).length : Int) := by omega
      refine wp_region_dett (fun wi => Below W6.heap.size W6 wi) 10 _ (by kernel_rfl) (by kernel_rfl) (by kernel_rfl) rfl rfl (Below.refl _ _).drew ?_
      iterate 10 (first
        | (refine wpDet_skip (by rfl) ?_; simp only [Act.put, List.setIfInBounds_toArray, List.set_cons_succ, List.set_cons_zero])
        | (apply wpDet_step
           · rfl
           · (intro wi hi K hK; have hc := (bcell hi).1; go_wp2_with fail
              all_goals first
              | exact hK _ hi
              | exact hi)
           · kernel_rfl))
      refine wpDet_nil (fun wi hi => ?_)
      have HPi := Lib.hid (HP6.out.keep HWH.out hi)
      clear HP6 gb hbxl hltl hdbl g0 k6' k7' i6 i7
      have gi := HPi.out.free 7
      have gj := HPi.out.lt
      have gk := HPi.out.cell 7
      simp only [List.getElem?_toArray, List.getElem?_cons_succ, List.getElem?_cons_zero] at gk
      go_wp2_with fail
      have HPn := HPi.out.set 7 (.int .u32 qn)
      simp only [List.setIfInBounds_toArray, List.set_cons_succ, List.set_cons_zero] at HPn
      have HP7 := Lib.hid HPn
      generalize wi.setCell { block := lt, off := 7, spot := none } _ = W7 at *
      clear hi gi gj gk HPi HPn
      have gb := HP7.out.box
      have hbxl := HP7.out.bx
      have hltl := HP7.out.lt
      have hdbl := HP7.out.db HWH.out
      have g0 : W7.cell? ⟨lt, 0, none⟩ = some (.slice (some ⟨db, 0, none⟩) (bytesB p).length c) := HP7.out.cell 0
      obtain ⟨_, _, k6, k7⟩ := head_bytes HP7.out.mem
      rw [HQN.out] at k6
      rw [HZ_.out] at k7
      have k6' : W7.cell? ⟨db, 6, none⟩ = some (.int .u8 qn) := by rw [k6]; exact congrArg (fun z : Nat => some (Value.int .u8 z)) (by rw [UInt8.toNat_ofNat']; omega)
      have k7' : W7.cell? ⟨db, 7, none⟩ = some (.int .u8 (8 : Nat)) := k7
      clear k6 k7
      have i6 : (6 : Int) < ((bytesB p).length : Int) := by omega
      have i7 : (7 : Int) < ((bytesB p).length : Int) := by omega
      refine wp_region_dett (fun wi => Below W7.heap.size W7 wi) 10 _ (by kernel_rfl) (by kernel_rfl) (by kernel_rfl) rfl rfl (Below.refl _ _).drew ?_
      iterate 10 (first
        | (refine wpDet_skip (by rfl) ?_; simp only [Act.put, List.setIfInBounds_toArray, List.set_cons_succ, List.set_cons_zero])
        | (apply wpDet_step
           · rfl
           · (intro wi hi K hK; have hc := (bcell hi).1; go_wp2_with fail
              all_goals first
              | exact hK _ hi
              | exact hi)
           · kernel_rfl))
      refine wpDet_nil (fun wi hi => ?_)
      have HPi := Lib.hid (HP7.out.keep HWH.out hi)
      clear HP7 gb hbxl hltl hdbl g0 k6' k7' i6 i7
      have gi := HPi.out.free 8
      have gj := HPi.out.lt
      have gk := HPi.out.cell 8
      simp only [List.getElem?_toArray, List.getElem?_cons_succ, List.getElem?_cons_zero] at gk
      go_upto_region 29 with fail
      have HPn := HPi.out.set 8 (.int .u32 8)
      simp only [List.setIfInBounds_toArray, List.set_cons_succ, List.set_cons_zero] at HPn
      have HP8 := Lib.hid HPn
      generalize wi.setCell { block := lt, off := 8, spot := none } _ = W8 at *
      clear hi gi gj gk HPi HPn
      have hsz8 := HP8.out.bx
      go_wp2_with fail
      generalize hW9 : W8.alloc _ = W9
      have HP9 := Lib.hid (HP8.out.alloc HWH.out _ hW9)
      clear hW9 HP8
      have gb := HP9.out.box
      have hbxl := HP9.out.bx
      have hltl := HP9.out.lt
      have hdbl := HP9.out.db HWH.out
      have g0 : W9.cell? ⟨lt, 0, none⟩ = some (.slice (some ⟨db, 0, none⟩) (bytesB p).length c) := HP9.out.cell 0
      have HC5 := Lib.hid (fun wi (hi : Below W9.heap.size W9 wi) => (show wi.cell? ⟨lt, 5, none⟩ = some (.int .i64 2) from (HP9.out.keep HWH.out hi).cell 5))
      have HC6 := Lib.hid (fun wi (hi : Below W9.heap.size W9 wi) => (show wi.cell? ⟨lt, 6, none⟩ = some (.bool p.big) from by rw [HBG.out]; exact (HP9.out.keep HWH.out hi).cell 6))
      have HC8 := Lib.hid (fun wi (hi : Below W9.heap.size W9 wi) => (show wi.cell? ⟨lt, 8, none⟩ = some (.int .u32 (wszN p)) from by rw [HZ_.out]; exact (HP9.out.keep HWH.out hi).cell 8))
      refine wp_region_dett (fun wi => Below W9.heap.size W9 wi) 11 _ (by kernel_rfl) (by kernel_rfl) (by kernel_rfl) rfl rfl (Below.refl _ _).drew ?_
      iterate 11 (first
        | (refine wpDet_skip (by rfl) ?_; simp only [Act.put, List.setIfInBounds_toArray, List.set_cons_succ, List.set_cons_zero])
        | (apply wpDet_step
           · rfl
           · (intro wi hi K hK; have hc := (bcell hi).1; go_wp2_with fail
              all_goals first
              | exact hK _ hi
              | exact hi
              | (go_at_call 62; (with_reducible refine Calls.mono (uintptr_any lt db p 8 _ _ nf _ (HC6.out _ hi) (HC8.out _ hi) ((HP9.out.keep HWH.out hi).mem.at HAC.out) (by omega) (by rw [HZ_.out]; omega) (by omega)) ?_); rintro e w5 ⟨rfl, hb5⟩; go_wp2_with fail; all_goals first | exact hK _ (below_next2 hi hb5) | exact below_next2 hi hb5))
           · kernel_rfl))
      refine wpDet_nil (fun wi hi => ?_)
      have HPi := Lib.hid (HP9.out.keep HWH.out hi)
      clear HP9 gb hbxl hltl hdbl g0 HC5 HC6 HC8
      have gi := HPi.out.free 14
      have gj := HPi.out.lt
      have gk := HPi.out.cell 14
      simp only [List.getElem?_toArray, List.getElem?_cons_succ, List.getElem?_cons_zero] at gk
      go_wp2_with fail
      have HPn := HPi.out.set 14 (.int .u32 nf)
      simp only [List.setIfInBounds_toArray, List.set_cons_succ, List.set_cons_zero] at HPn
      have HP10 := Lib.hid HPn
      generalize wi.setCell { block := lt, off := 14, spot := none } _ = W10 at *
      clear hi gi gj gk HPi HPn
      have gb := HP10.out.box
      have hbxl := HP10.out.bx
      have hltl := HP10.out.lt
      have hdbl := HP10.out.db HWH.out
      have g0 : W10.cell? ⟨lt, 0, none⟩ = some (.slice (some ⟨db, 0, none⟩) (bytesB p).length c) := HP10.out.cell 0
      refine wp_region_dett (fun wi => Below W10.heap.size W10 wi) 7 _ (by kernel_rfl) (by kernel_rfl) (by kernel_rfl) rfl rfl (Below.refl _ _).drew ?_
      iterate 7 (first
        | (refine wpDet_skip (by rfl) ?_; simp only [Act.put, List.setIfInBounds_toArray, List.set_cons_succ, List.set_cons_zero])
        | (apply wpDet_step
           · rfl
           · (intro wi hi K hK; have hc := (bcell hi).1; go_wp2_with fail
              all_goals first
              | exact hK _ hi
              | exact hi)
           · kernel_rfl))
      refine wpDet_nil (fun wi hi => ?_)
      have HPi := Lib.hid (HP10.out.keep HWH.out hi)
      clear HP10 gb hbxl hltl hdbl g0
      have gi := HPi.out.free 12
      have gj := HPi.out.lt
      have gk := HPi.out.cell 12
      simp only [List.getElem?_toArray, List.getElem?_cons_succ, List.getElem?_cons_zero] at gk
      go_wp2_with fail
      have HPn := HPi.out.set 12 (.slice (some ⟨db, 0, none⟩) (bytesB p).length c)
      simp only [List.setIfInBounds_toArray, List.set_cons_succ, List.set_cons_zero] at HPn
      have HP11 := Lib.hid HPn
      generalize wi.setCell { block := lt, off := 12, spot := none } _ = W11 at *
      clear hi gi gj gk HPi HPn
      have gb := HP11.out.box
      have hbxl := HP11.out.bx
      have hltl := HP11.out.lt
      have hdbl := HP11.out.db HWH.out
      have g0 : W11.cell? ⟨lt, 0, none⟩ = some (.slice (some ⟨db, 0, none⟩) (bytesB p).length c) := HP11.out.cell 0
      refine wp_region_dett (fun wi => Below W11.heap.size W11 wi) 7 _ (by kernel_rfl) (by kernel_rfl) (by kernel_rfl) rfl rfl (Below.refl _ _).drew ?_
      iterate 7 (first
        | (refine wpDet_skip (by rfl) ?_; simp only [Act.put, List.setIfInBounds_toArray, List.set_cons_succ, List.set_cons_zero])
        | (apply wpDet_step
           · rfl
           · (intro wi hi K hK; have hc := (bcell hi).1; go_wp2_with fail
              all_goals first
              | exact hK _ hi
              | exact hi)
           · kernel_rfl))
      refine wpDet_nil (fun wi hi => ?_)
      have HPi := Lib.hid (HP11.out.keep HWH.out hi)
      clear HP11 gb hbxl hltl hdbl g0
      have gi := HPi.out.free 10
      have gj := HPi.out.lt
      have gk := HPi.out.cell 10
      simp only [List.getElem?_toArray, List.getElem?_cons_succ, List.getElem?_cons_zero] at gk
      go_wp2_with fail
      have HPn := HPi.out.set 10 (.slice (some ⟨db, 0, none⟩) (bytesB p).length c)
      simp only [List.setIfInBounds_toArray, List.set_cons_succ, List.set_cons_zero] at HPn
      have HP12 := Lib.hid HPn
      generalize wi.setCell { block := lt, off := 10, spot := none } _ = W12 at *
      clear hi gi gj gk HPi HPn
      have gb := HP12.out.box
      have hbxl := HP12.out.bx
      have hltl := HP12.out.lt
      have hdbl := HP12.out.db HWH.out
      have g0 : W12.cell? ⟨lt, 0, none⟩ = some (.slice (some ⟨db, 0, none⟩) (bytesB p).length c) := HP12.out.cell 0
      have g8 : W12.cell? ⟨lt, 8, none⟩ = some (.int .u32 8) := HP12.out.cell 8
      refine wp_region_dett (fun wi => Below W12.heap.size W12 wi) 13 _ (by kernel_rfl) (by kernel_rfl) (by kernel_rfl) rfl rfl (Below.refl _ _).drew ?_
      iterate 13 (first
        | (refine wpDet_skip (by rfl) ?_; simp only [Act.put, List.setIfInBounds_toArray, List.set_cons_succ, List.set_cons_zero])
        | (apply wpDet_step
           · rfl
           · (intro wi hi K hK; have hc := (bcell hi).1; go_wp2_with fail
              all_goals first
              | exact hK _ hi
              | exact hi)
           · kernel_rfl))
      refine wpDet_nil (fun wi hi => ?_)
      have HPi := Lib.hid (HP12.out.keep HWH.out hi)
      clear HP12 gb hbxl hltl hdbl g0 g8
      have gi := HPi.out.free 13
      have gj := HPi.out.lt
      have gk := HPi.out.cell 13
      simp only [List.getElem?_toArray, List.getElem?_cons_succ, List.getElem?_cons_zero] at gk
      go_wp2_with fail
      have HPn := HPi.out.set 13 (.slice (some ⟨db, 16, none⟩) ((bytesB p).length - 16) (c - 16))
      simp only [List.setIfInBounds_toArray, List.set_cons_succ, List.set_cons_zero] at HPn
      have HP13 := Lib.hid HPn
      generalize wi.setCell { block := lt, off := 13, spot := none } _ = W13 at *
      clear hi gi gj gk HPi HPn
      have gb := HP13.out.box
      have hbxl := HP13.out.bx
      have hltl := HP13.out.lt
      have hdbl := HP13.out.db HWH.out
      have g0 : W13.cell? ⟨lt, 0, none⟩ = some (.slice (some ⟨db, 0, none⟩) (bytesB p).length c) := HP13.out.cell 0
      refine wp_region_dett (fun wi => Below W13.heap.size W13 wi) 7 _ (by kernel_rfl) (by kernel_rfl) (by kernel_rfl) rfl rfl (Below.refl _ _).drew ?_
      iterate 7 (first
        | (refine wpDet_skip (by rfl) ?_; simp only [Act.put, List.setIfInBounds_toArray, List.set_cons_succ, List.set_cons_zero])
        | (apply wpDet_step
           · rfl
           · (intro wi hi K hK; have hc := (bcell hi).1; go_wp2_with fail
              all_goals first
              | exact hK _ hi
              | exact hi)
           · kernel_rfl))
      refine wpDet_nil (fun wi hi => ?_)
      have HPi := Lib.hid (HP13.out.keep HWH.out hi)
      clear HP13 gb hbxl hltl hdbl g0
      have gi := HPi.out.free 16
      have gj := HPi.out.lt
      have gk := HPi.out.cell 16
      simp only [List.getElem?_toArray, List.getElem?_cons_succ, List.getElem?_cons_zero] at gk
      go_wp2_with fail
      have HPn := HPi.out.set 16 (.slice (some ⟨db, 0, none⟩) (bytesB p).length c)
      simp only [List.setIfInBounds_toArray, List.set_cons_succ, List.set_cons_zero] at HPn
      have HP14 := Lib.hid HPn
      generalize wi.setCell { block := lt, off := 16, spot := none } _ = W14 at *
      clear hi gi gj gk HPi HPn
      have gb := HP14.out.box
      have hbxl := HP14.out.bx
      have hltl := HP14.out.lt
      have hdbl := HP14.out.db HWH.out
      have g14 : W14.cell? ⟨lt, 14, none⟩ = some (.int .u32 nf) := HP14.out.cell 14
      have HC5 := Lib.hid (fun wi (hi : Below W14.heap.size W14 wi) => (show wi.cell? ⟨lt, 5, none⟩ = some (.int .i64 2) from (HP14.out.keep HWH.out hi).cell 5))
      have HC6 := Lib.hid (fun wi (hi : Below W14.heap.size W14 wi) => (show wi.cell? ⟨lt, 6, none⟩ = some (.bool p.big) from by rw [HBG.out]; exact (HP14.out.keep HWH.out hi).cell 6))
      have HC8 := Lib.hid (fun wi (hi : Below W14.heap.size W14 wi) => (show wi.cell? ⟨lt, 8, none⟩ = some (.int .u32 (wszN p)) from by rw [HZ_.out]; exact (HP14.out.keep HWH.out hi).cell 8))
      refine wp_region_det (fun wi => Below W14.heap.size W14 wi) (by kernel_rfl) (by kernel_rfl) (Below.refl _ _).drew ?_
      iterate 11 (first
        | (refine wpDet_skip (by rfl) ?_; simp only [Act.put, List.setIfInBounds_toArray, List.set_cons_succ, List.set_cons_zero])
        | (apply wpDet_step
           · rfl
           · (intro wi hi K hK; have hc := (bcell hi).1; go_wp2_with fail
              all_goals first
              | exact hK _ hi
              | exact hi
              | (go_at_call 64; (with_reducible refine Calls.mono (fieldSize_any lt p _ (HC5.out _ hi) (HC8.out _ hi)) ?_); rintro e w5 ⟨rfl, rfl⟩; rw [HZ_.out]; go_wp2_with fail; all_goals first | exact hK _ (hi) | exact hi))
           · kernel_rfl))
      refine wpDet_nil (fun wi hi => ?_)
      have HPi := Lib.hid (HP14.out.keep HWH.out hi)
      clear HP14 gb hbxl hltl hdbl g14 HC5 HC6 HC8
      go_wp2_with fail
      have HP15 := HPi
      clear hi HPi
      generalize wi = W15 at *
      obtain ⟨fts, hfts⟩ : ∃ fts, (2 * nf + 1) * 8 = fts := ⟨_, rfl⟩
      have hfi : ((nf : Int) * 2 + 1) * 8 = (fts : Int) := by omega
      rw [hfi]
      have HAFX : Hid (At (bytesB p) (16 + fts) (numB p.big fo 4)) := Lib.hid (by have := HAF.out; rw [HNF.out, HZ_.out, hfts] at this; exact this)
      rw [hfts] at hfo1
      have HFTS := Lib.hid hfts
      clear hfi hfts
      have gb := HP15.out.box
      have hbxl := HP15.out.bx
      have hltl := HP15.out.lt
      have hdbl := HP15.out.db HWH.out
      have g6 : W15.cell? ⟨lt, 6, none⟩ = some (.bool true) := HP15.out.cell 6
      have g13 : W15.cell? ⟨lt, 13, none⟩ = some (.slice (some ⟨db, 16, none⟩) ((bytesB p).length - 16) (c - 16)) := HP15.out.cell 13
      refine wp_region_det (fun wi => Below W15.heap.size W15 wi) (by kernel_rfl) (by kernel_rfl) (Below.refl _ _).drew ?_
      iterate 12 (first
        | (refine wpDet_skip (by rfl) ?_; simp only [Act.put, List.setIfInBounds_toArray, List.set_cons_succ, List.set_cons_zero])
        | (apply wpDet_step
           · rfl
           · (intro wi hi K hK; have hc := (bcell hi).1; go_wp2_with fail
              all_goals first
              | exact hK _ hi
              | exact hi
              | (go_at_call 50; (with_reducible refine Calls.mono (uint32_any _ db (16 + fts) _ _ (numB p.big fo 4) _ (numB_length _ _ _) ((HP15.out.keep HWH.out hi).mem.at HAFX.out) (by omega) (by omega)) ?_); rintro e w5 ⟨rfl, hb5⟩; rw [HBV.out _ (by omega)]; go_wp2_with fail; all_goals first | exact hK _ (below_next2 hi hb5) | exact below_next2 hi hb5))
           · kernel_rfl))
      refine wpDet_nil (fun wi hi => ?_)
      have HPi := Lib.hid (HP15.out.keep HWH.out hi)
      clear HP15 gb hbxl hltl hdbl g6 g13
      go_wp2_with fail
      have HP16 := HPi
      clear hi HPi
      generalize wi = W16 at *
      have gb := HP16.out.box
      have hbxl := HP16.out.bx
      have hltl := HP16.out.lt
      have hdbl := HP16.out.db HWH.out
      have g13 : W16.cell? ⟨lt, 13, none⟩ = some (.slice (some ⟨db, 16, none⟩) ((bytesB p).length - 16) (c - 16)) := HP16.out.cell 13
      refine wp_region_dett (fun wi => Below W16.heap.size W16 wi) 9 _ (by kernel_rfl) (by kernel_rfl) (by kernel_rfl) rfl rfl (Below.refl _ _).drew ?_
      iterate 9 (first
        | (refine wpDet_skip (by rfl) ?_; simp only [Act.put, List.setIfInBounds_toArray, List.set_cons_succ, List.set_cons_zero])
        | (apply wpDet_step
           · rfl
           · (intro wi hi K hK; have hc := (bcell hi).1; go_wp2_with fail
              all_goals first
              | exact hK _ hi
              | exact hi)
           · kernel_rfl))
      refine wpDet_nil (fun wi hi => ?_)
      have HPi := Lib.hid (HP16.out.keep HWH.out hi)
      clear HP16 gb hbxl hltl hdbl g13
      have gi := HPi.out.free 13
      have gj := HPi.out.lt
      have gk := HPi.out.cell 13
      simp only [List.getElem?_toArray, List.getElem?_cons_succ, List.getElem?_cons_zero] at gk
      go_wp2_with fail
      have HPn := HPi.out.set 13 (.slice (some ⟨db, 16, none⟩) fts (c - 16))
      simp only [List.setIfInBounds_toArray, List.set_cons_succ, List.set_cons_zero] at HPn
      have HP17 := Lib.hid HPn
      generalize wi.setCell { block := lt, off := 13, spot := none } _ = W17 at *
      clear hi gi gj gk HPi HPn
      have gb := HP17.out.box
      have hbxl := HP17.out.bx
      have hltl := HP17.out.lt
      have hdbl := HP17.out.db HWH.out
      have g0 : W17.cell? ⟨lt, 0, none⟩ = some (.slice (some ⟨db, 0, none⟩) (bytesB p).length c) := HP17.out.cell 0
      refine wp_region_dett (fun wi => Below W17.heap.size W17 wi) 9 _ (by kernel_rfl) (by kernel_rfl) (by kernel_rfl) rfl rfl (Below.refl _ _).drew ?_
      iterate 9 (first
        | (refine wpDet_skip (by rfl) ?_; simp only [Act.put, List.setIfInBounds_toArray, List.set_cons_succ, List.set_cons_zero])
        | (apply wpDet_step
           · rfl
           · (intro wi hi K hK; have hc := (bcell hi).1; go_wp2_with fail
              all_goals first
              | exact hK _ hi
              | exact hi)
           · kernel_rfl))
      refine wpDet_nil (fun wi hi => ?_)
      have HPi := Lib.hid (HP17.out.keep HWH.out hi)
      clear HP17 gb hbxl hltl hdbl g0
      have gi := HPi.out.free 15
      have gj := HPi.out.lt
      have gk := HPi.out.cell 15
      simp only [List.getElem?_toArray, List.getElem?_cons_succ, List.getElem?_cons_zero] at gk
      go_wp2_with fail
      have HPn := HPi.out.set 15 (.slice (some ⟨db, fo, none⟩) ((bytesB p).length - fo) (c - fo))
      simp only [List.setIfInBounds_toArray, List.set_cons_succ, List.set_cons_zero] at HPn
      have HP18 := Lib.hid HPn
      generalize wi.setCell { block := lt, off := 15, spot := none } _ = W18 at *
      clear hi gi gj gk HPi HPn
      have gb := HP18.out.box
      have hbxl := HP18.out.bx
      have hltl := HP18.out.lt
      have hdbl := HP18.out.db HWH.out
      have g6 : W18.cell? ⟨lt, 6, none⟩ = some (.bool true) := HP18.out.cell 6
      have g15 : W18.cell? ⟨lt, 15, none⟩ = some (.slice (some ⟨db, fo, none⟩) ((bytesB p).length - fo) (c - fo)) := HP18.out.cell 15
      refine wp_region_dett (fun wi => Below W18.heap.size W18 wi) 12 _ (by kernel_rfl) (by kernel_rfl) (by kernel_rfl) rfl rfl (Below.refl _ _).drew ?_
      iterate 12 (first
        | (refine wpDet_skip (by rfl) ?_; simp only [Act.put, List.setIfInBounds_toArray, List.set_cons_succ, List.set_cons_zero])
        | (apply wpDet_step
           · rfl
           · (intro wi hi K hK; have hc := (bcell hi).1; go_wp2_with fail
              all_goals first
              | exact hK _ hi
              | exact hi
              | (go_at_call 50; (with_reducible refine Calls.mono (uint32_any _ db (fo) _ _ (numB p.big nl 4) _ (numB_length _ _ _) ((HP18.out.keep HWH.out hi).mem.at HAN.out) (by omega) (by omega)) ?_); rintro e w5 ⟨rfl, hb5⟩; rw [HBV.out _ (by omega)]; go_wp2_with fail; all_goals first | exact hK _ (below_next2 hi hb5) | exact below_next2 hi hb5))
           · kernel_rfl))
      refine wpDet_nil (fun wi hi => ?_)
      have HPi := Lib.hid (HP18.out.keep HWH.out hi)
      clear HP18 gb hbxl hltl hdbl g6 g15
      have gi := HPi.out.free 17
      have gj := HPi.out.lt
      have gk := HPi.out.cell 17
      simp only [List.getElem?_toArray, List.getElem?_cons_succ, List.getElem?_cons_zero] at gk
      go_wp2_with fail
      have HPn := HPi.out.set 17 (.int .u32 nl)
      simp only [List.setIfInBounds_toArray, List.set_cons_succ, List.set_cons_zero] at HPn
      have HP19 := Lib.hid HPn
      generalize wi.setCell { block := lt, off := 17, spot := none } _ = W19 at *
      clear hi gi gj gk HPi HPn
      have gb := HP19.out.box
      have hbxl := HP19.out.bx
      have hltl := HP19.out.lt
      have hdbl := HP19.out.db HWH.out
      have g15 : W19.cell? ⟨lt, 15, none⟩ = some (.slice (some ⟨db, fo, none⟩) ((bytesB p).length - fo) (c - fo)) := HP19.out.cell 15
      have g17 : W19.cell? ⟨lt, 17, none⟩ = some (.int .u32 nl) := HP19.out.cell 17
      refine wp_region_dett (fun wi => Below W19.heap.size W19 wi) 13 _ (by kernel_rfl) (by kernel_rfl) (by kernel_rfl) rfl rfl (Below.refl _ _).drew ?_
      iterate 13 (first
        | (refine wpDet_skip (by rfl) ?_; simp only [Act.put, List.setIfInBounds_toArray, List.set_cons_succ, List.set_cons_zero])
        | (apply wpDet_step
           · rfl
           · (intro wi hi K hK; have hc := (bcell hi).1; go_wp2_with fail
              all_goals first
              | exact hK _ hi
              | exact hi)
           · kernel_rfl))
      refine wpDet_nil (fun wi hi => ?_)
      have HPi := Lib.hid (HP19.out.keep HWH.out hi)
      clear HP19 gb hbxl hltl hdbl g15 g17
      have gi := HPi.out.free 15
      have gj := HPi.out.lt
      have gk := HPi.out.cell 15
      simp only [List.getElem?_toArray, List.getElem?_cons_succ, List.getElem?_cons_zero] at gk
      go_wp2_with fail
      have HPn := HPi.out.set 15 (.slice (some ⟨db, fo, none⟩) (nl * 4) (c - fo))
      simp only [List.setIfInBounds_toArray, List.set_cons_succ, List.set_cons_zero] at HPn
      have HP20 := Lib.hid HPn
      generalize wi.setCell { block := lt, off := 15, spot := none } _ = W20 at *
      clear hi gi gj gk HPi HPn
      have gi : W20.cell? ⟨lt, 3, none⟩ = some (.int .i32 1) := HP20.out.cell 3
      have gf := HP20.out.free 3
      have HPf := Lib.hid (HP20.out.set 3 (.int .i32 0))
      simp only [List.setIfInBounds_toArray, List.set_cons_succ, List.set_cons_zero] at HPf
      refine leaves_cons (f := 60) (args := #[]) (by simp) (by simp [go_sem]) ?_
      refine (catchParse_idle _).mono ?_
      rintro e u' w'' ⟨rfl, rfl, rfl⟩
      refine leaves_cons (f := 59) (args := #[.pointer (some ⟨lt, 3, none⟩)]) (by simp [settle]) (by simp [go_sem]) ?_
      refine (Go.MuLone.unlock_deferred muLib ⟨lt, 3, none⟩ _ _ gi gf).mono ?_
      rintro e u' w'' ⟨rfl, rfl, rfl⟩
      simp [Leaves, settle, results, Try.results43, go_sem]
      refine ⟨HPf.out.fr, HPf.out.row.trans ?_⟩
      simp only [rowE, rowL, ftV, filV, bytesV]
      rw [HBG.out, HQ.out, HZ_.out, HNF.out, HFO.out, HNL.out, HFTS.out]
      rfl
    · skip
      rw [hz] at hfo1
      have HBV := HB _ hbig.symm
      have HZ_ := Lib.hid hz
      have HBG := Lib.hid hbig
      rw [hbig] at HP5
      clear HV H1 H2 HB hz hbig
      go_upto_region 26 with fail
      generalize W4.setCell { block := lt, off := 6, spot := none } _ = W5 at *
      clear gb f5 f6 h5 h6
      have gb := HP5.out.box
      have f5 := HP5.out.free 5
      have h5 : W5.cell? ⟨lt, 5, none⟩ = some (.int .i64 1) := HP5.out.cell 5
      have hbxl := HP5.out.bx
      have hltl := HP5.out.lt
      go_wp2_with fail
      have HP6 := Lib.hid (HP5.out.set 5 (.int .i64 2))
      simp only [List.setIfInBounds_toArray, List.set_cons_succ, List.set_cons_zero] at HP6
      generalize W5.setCell { block := lt, off := 5, spot := none } _ = W6 at *
      clear gb f5 h5 HP5 hbxl hltl
      have gb := HP6.out.box
      have hbxl := HP6.out.bx
      have hltl := HP6.out.lt
      have hdbl := HP6.out.db HWH.out
      have g0 : W6.cell? ⟨lt, 0, none⟩ = some (.slice (some ⟨db, 0, none⟩) (bytesB p).length c) := HP6.out.cell 0
      obtain ⟨_, _, k6, k7⟩ := head_bytes HP6.out.mem
      rw [HQN.out] at k6
      rw [HZ_.out] at k7
      have k6' : W6.cell? ⟨db, 6, none⟩ = some (.int .u8 qn) := by rw [k6]; exact congrArg (fun z : Nat => some (Value.int .u8 z)) (by rw [UInt8.toNat_ofNat']; omega)
      have k7' : W6.cell? ⟨db, 7, none⟩ = some (.int .u8 (4 : Nat)) := k7
      clear k6 k7
      have i6 : (6 : Int) < ((bytesB p).length : Int) := by omega
      have i7 : (7 : Int) < ((bytesB p).length : Int) := by omega
      refine wp_region_dett (fun wi => Below W6.heap.size W6 wi) 10 _ (by kernel_rfl) (by kernel_rfl) (by kernel_rfl) rfl rfl (Below.refl _ _).drew ?_
      iterate 10 (first
        | (refine wpDet_skip (by rfl) ?_; simp only [Act.put, List.setIfInBounds_toArray, List.set_cons_succ, List.set_cons_zero])
        | (apply wpDet_step
           · rfl
           · (intro wi hi K hK; have hc := (bcell hi).1; go_wp2_with fail
              all_goals first
              | exact hK _ hi
              | exact hi)
           · kernel_rfl))
      refine wpDet_nil (fun wi hi => ?_)
      have HPi := Lib.hid (HP6.out.keep HWH.out hi)
      clear HP6 gb hbxl hltl hdbl g0 k6' k7' i6 i7
      have gi := HPi.out.free 7
      have gj := HPi.out.lt
      have gk := HPi.out.cell 7
      simp only [List.getElem?_toArray, List.getElem?_cons_succ, List.getElem?_cons_zero] at gk
      go_wp2_with fail
      have HPn := HPi.out.set 7 (.int .u32 qn)
      simp only [List.setIfInBounds_toArray, List.set_cons_succ, List.set_cons_zero] at HPn
      have HP7 := Lib.hid HPn
      generalize wi.setCell { block := lt, off := 7, spot := none } _ = W7 at *
      clear hi gi gj gk HPi HPn
      have gb := HP7.out.box
      have hbxl := HP7.out.bx
      have hltl := HP7.out.lt
      have hdbl := HP7.out.db HWH.out
      have g0 : W7.cell? ⟨lt, 0, none⟩ = some (.slice (some ⟨db, 0, none⟩) (bytesB p).length c) := HP7.out.cell 0
      obtain ⟨_, _, k6, k7⟩ := head_bytes HP7.out.mem
      rw [HQN.out] at k6
      rw [HZ_.out] at k7
      have k6' : W7.cell? ⟨db, 6, none⟩ = some (.int .u8 qn) := by rw [k6]; exact congrArg (fun z : Nat => some (Value.int .u8 z)) (by rw [UInt8.toNat_ofNat']; omega)
      have k7' : W7.cell? ⟨db, 7, none⟩ = some (.int .u8 (4 : Nat)) := k7
      clear k6 k7
      have i6 : (6 : Int) < ((bytesB p).length : Int) := by omega
      have i7 : (7 : Int) < ((bytesB p).length : Int) := by omega
      refine wp_region_dett (fun wi => Below W7.heap.size W7 wi) 10 _ (by kernel_rfl) (by kernel_rfl) (by kernel_rfl) rfl rfl (Below.refl _ _).drew ?_
      iterate 10 (first
        | (refine wpDet_skip (by rfl) ?_; simp only [Act.put, List.setIfInBounds_toArray, List.set_cons_succ, List.set_cons_zero])
        | (apply wpDet_step
           · rfl
           · (intro wi hi K hK; have hc := (bcell hi).1; go_wp2_with fail
              all_goals first
              | exact hK _ hi
              | exact hi)
           · kernel_rfl))
      refine wpDet_nil (fun wi hi => ?_)
      have HPi := Lib.hid (HP7.out.keep HWH.out hi)
      clear HP7 gb hbxl hltl hdbl g0 k6' k7' i6 i7
      have gi := HPi.out.free 8
      have gj := HPi.out.lt
      have gk := HPi.out.cell 8
      simp only [List.getElem?_toArray, List.getElem?_cons_succ, List.getElem?_cons_zero] at gk
      go_upto_region 29 with fail
      have HPn := HPi.out.set 8 (.int .u32 4)
      simp only [List.setIfInBounds_toArray, List.set_cons_succ, List.set_cons_zero] at HPn
      have HP8 := Lib.hid HPn
      generalize wi.setCell { block := lt, off := 8, spot := none } _ = W8 at *
      clear hi gi gj gk HPi HPn
      have hsz8 := HP8.out.bx
      go_wp2_with fail
      generalize hW9 : W8.alloc _ = W9
      have HP9 := Lib.hid (HP8.out.alloc HWH.out _ hW9)
      clear hW9 HP8
      have gb := HP9.out.box
      have hbxl := HP9.out.bx
      have hltl := HP9.out.lt
      have hdbl := HP9.out.db HWH.out
      have g0 : W9.cell? ⟨lt, 0, none⟩ = some (.slice (some ⟨db, 0, none⟩) (bytesB p).length c) := HP9.out.cell 0
      have HC5 := Lib.hid (fun wi (hi : Below W9.heap.size W9 wi) => (show wi.cell? ⟨lt, 5, none⟩ = some (.int .i64 2) from (HP9.out.keep HWH.out hi).cell 5))
      have HC6 := Lib.hid (fun wi (hi : Below W9.heap.size W9 wi) => (show wi.cell? ⟨lt, 6, none⟩ = some (.bool p.big) from by rw [HBG.out]; exact (HP9.out.keep HWH.out hi).cell 6))
      have HC8 := Lib.hid (fun wi (hi : Below W9.heap.size W9 wi) => (show wi.cell? ⟨lt, 8, none⟩ = some (.int .u32 (wszN p)) from by rw [HZ_.out]; exact (HP9.out.keep HWH.out hi).cell 8))
      refine wp_region_dett (fun wi => Below W9.heap.size W9 wi) 11 _ (by kernel_rfl) (by kernel_rfl) (by kernel_rfl) rfl rfl (Below.refl _ _).drew ?_
      iterate 11 (first
        | (refine wpDet_skip (by rfl) ?_; simp only [Act.put, List.setIfInBounds_toArray, List.set_cons_succ, List.set_cons_zero])
        | (apply wpDet_step
           · rfl
           · (intro wi hi K hK; have hc := (bcell hi).1; go_wp2_with fail
              all_goals first
              | exact hK _ hi
              | exact hi
              | (go_at_call 62; (with_reducible refine Calls.mono (uintptr_any lt db p 8 _ _ nf _ (HC6.out _ hi) (HC8.out _ hi) ((HP9.out.keep HWH.out hi).mem.at HAC.out) (by omega) (by rw [HZ_.out]; omega) (by omega)) ?_); rintro e w5 ⟨rfl, hb5⟩; go_wp2_with fail; all_goals first | exact hK _ (below_next2 hi hb5) | exact below_next2 hi hb5))
           · kernel_rfl))
      refine wpDet_nil (fun wi hi => ?_)
      have HPi := Lib.hid (HP9.out.keep HWH.out hi)
      clear HP9 gb hbxl hltl hdbl g0 HC5 HC6 HC8
      have gi := HPi.out.free 14
      have gj := HPi.out.lt
      have gk := HPi.out.cell 14
      simp only [List.getElem?_toArray, List.getElem?_cons_succ, List.getElem?_cons_zero] at gk
      go_wp2_with fail
      have HPn := HPi.out.set 14 (.int .u32 nf)
      simp only [List.setIfInBounds_toArray, List.set_cons_succ, List.set_cons_zero] at HPn
      have HP10 := Lib.hid HPn
      generalize wi.setCell { block := lt, off := 14, spot := none } _ = W10 at *
      clear hi gi gj gk HPi HPn
      have gb := HP10.out.box
      have hbxl := HP10.out.bx
      have hltl := HP10.out.lt
      have hdbl := HP10.out.db HWH.out
      have g0 : W10.cell? ⟨lt, 0, none⟩ = some (.slice (some ⟨db, 0, none⟩) (bytesB p).length c) := HP10.out.cell 0
      refine wp_region_dett (fun wi => Below W10.heap.size W10 wi) 7 _ (by kernel_rfl) (by kernel_rfl) (by kernel_rfl) rfl rfl (Below.refl _ _).drew ?_
      iterate 7 (first
        | (refine wpDet_skip (by rfl) ?_; simp only [Act.put, List.setIfInBounds_toArray, List.set_cons_succ, List.set_cons_zero])
        | (apply wpDet_step
           · rfl
           · (intro wi hi K hK; have hc := (bcell hi).1; go_wp2_with fail
              all_goals first
              | exact hK _ hi
              | exact hi)
           · kernel_rfl))
      refine wpDet_nil (fun wi hi => ?_)
      have HPi := Lib.hid (HP10.out.keep HWH.out hi)
      clear HP10 gb hbxl hltl hdbl g0
      have gi := HPi.out.free 12
      have gj := HPi.out.lt
      have gk := HPi.out.cell 12
      simp only [List.getElem?_toArray, List.getElem?_cons_succ, List.getElem?_cons_zero] at gk
      go_wp2_with fail
      have HPn := HPi.out.set 12 (.slice (some ⟨db, 0, none⟩) (bytesB p).length c)
      simp only [List.setIfInBounds_toArray, List.set_cons_succ, List.set_cons_zero] at HPn
      have HP11 := Lib.hid HPn
      generalize wi.setCell { block := lt, off := 12, spot := none } _ = W11 at *
      clear hi gi gj gk HPi HPn
      have gb := HP11.out.box
      have hbxl := HP11.out.bx
      have hltl := HP11.out.lt
      have hdbl := HP11.out.db HWH.out
      have g0 : W11.cell? ⟨lt, 0, none⟩ = some (.slice (some ⟨db, 0, none⟩) (bytesB p).length c) := HP11.out.cell 0
      refine wp_region_dett (fun wi => Below W11.heap.size W11 wi) 7 _ (by kernel_rfl) (by kernel_rfl) (by kernel_rfl) rfl rfl (Below.refl _ _).drew ?_
      iterate 7 (first
        | (refine wpDet_skip (by rfl) ?_; simp only [Act.put, List.setIfInBounds_toArray, List.set_cons_succ, List.set_cons_zero])
        | (apply wpDet_step
           · rfl
           · (intro wi hi K hK; have hc := (bcell hi).1; go_wp2_with fail
              all_goals first
              | exact hK _ hi
              | exact hi)
           · kernel_rfl))
      refine wpDet_nil (fun wi hi => ?_)
      have HPi := Lib.hid (HP11.out.keep HWH.out hi)
      clear HP11 gb hbxl hltl hdbl g0
      have gi := HPi.out.free 10
      have gj := HPi.out.lt
      have gk := HPi.out.cell 10
      simp only [List.getElem?_toArray, List.getElem?_cons_succ, List.getElem?_cons_zero] at gk
      go_wp2_with fail
      have HPn := HPi.out.set 10 (.slice (some ⟨db, 0, none⟩) (bytesB p).length c)
      simp only [List.setIfInBounds_toArray, List.set_cons_succ, List.set_cons_zero] at HPn
      have HP12 := Lib.hid HPn
      generalize wi.setCell { block := lt, off := 10, spot := none } _ = W12 at *
      clear hi gi gj gk HPi HPn
      have gb := HP12.out.box
      have hbxl := HP12.out.bx
      have hltl := HP12.out.lt
      have hdbl := HP12.out.db HWH.out
      have g0 : W12.cell? ⟨lt, 0, none⟩ = some (.slice (some ⟨db, 0, none⟩) (bytesB p).length c) := HP12.out.cell 0
      have g8 : W12.cell? ⟨lt, 8, none⟩ = some (.int .u32 4) := HP12.out.cell 8
      refine wp_region_dett (fun wi => Below W12.heap.size W12 wi) 13 _ (by kernel_rfl) (by kernel_rfl) (by kernel_rfl) rfl rfl (Below.refl _ _).drew ?_
      iterate 13 (first
        | (refine wpDet_skip (by rfl) ?_; simp only [Act.put, List.setIfInBounds_toArray, List.set_cons_succ, List.set_cons_zero])
        | (apply wpDet_step
           · rfl
           · (intro wi hi K hK; have hc := (bcell hi).1; go_wp2_with fail
              all_goals first
              | exact hK _ hi
              | exact hi)
           · kernel_rfl))
      refine wpDet_nil (fun wi hi => ?_)
      have HPi := Lib.hid (HP12.out.keep HWH.out hi)
      clear HP12 gb hbxl hltl hdbl g0 g8
      have gi := HPi.out.free 13
      have gj := HPi.out.lt
      have gk := HPi.out.cell 13
      simp only [List.getElem?_toArray, List.getElem?_cons_succ, List.getElem?_cons_zero] at gk
      go_wp2_with fail
      have HPn := HPi.out.set 13 (.slice (some ⟨db, 12, none⟩) ((bytesB p).length - 12) (c - 12))
      simp only [List.setIfInBounds_toArray, List.set_cons_succ, List.set_cons_zero] at HPn
      have HP13 := Lib.hid HPn
      generalize wi.setCell { block := lt, off := 13, spot := none } _ = W13 at *
      clear hi gi gj gk HPi HPn
      have gb := HP13.out.box
      have hbxl := HP13.out.bx
      have hltl := HP13.out.lt
      have hdbl := HP13.out.db HWH.out
      have g0 : W13.cell? ⟨lt, 0, none⟩ = some (.slice (some ⟨db, 0, none⟩) (bytesB p).length c) := HP13.out.cell 0
      refine wp_region_dett (fun wi => Below W13.heap.size W13 wi) 7 _ (by kernel_rfl) (by kernel_rfl) (by kernel_rfl) rfl rfl (Below.refl _ _).drew ?_
      iterate 7 (first
        | (refine wpDet_skip (by rfl) ?_; simp only [Act.put, List.setIfInBounds_toArray, List.set_cons_succ, List.set_cons_zero])
        | (apply wpDet_step
           · rfl
           · (intro wi hi K hK; have hc := (bcell hi).1; go_wp2_with fail
              all_goals first
              | exact hK _ hi
              | exact hi)
           · kernel_rfl))
      refine wpDet_nil (fun wi hi => ?_)
      have HPi := Lib.hid (HP13.out.keep HWH.out hi)
      clear HP13 gb hbxl hltl hdbl g0
      have gi := HPi.out.free 16
      have gj := HPi.out.lt
      have gk := HPi.out.cell 16
      simp only [List.getElem?_toArray, List.getElem?_cons_succ, List.getElem?_cons_zero] at gk
      go_wp2_with fail
      have HPn := HPi.out.set 16 (.slice (some ⟨db, 0, none⟩) (bytesB p).length c)
      simp only [List.setIfInBounds_toArray, List.set_cons_succ, List.set_cons_zero] at HPn
      have HP14 := Lib.hid HPn
      generalize wi.setCell { block := lt, off := 16, spot := none } _ = W14 at *
      clear hi gi gj gk HPi HPn
      have gb := HP14.out.box
      have hbxl := HP14.out.bx
      have hltl := HP14.out.lt
      have hdbl := HP14.out.db HWH.out
      have g14 : W14.cell? ⟨lt, 14, none⟩ = some (.int .u32 nf) := HP14.out.cell 14
      have HC5 := Lib.hid (fun wi (hi : Below W14.heap.size W14 wi) => (show wi.cell? ⟨lt, 5, none⟩ = some (.int .i64 2) from (HP14.out.keep HWH.out hi).cell 5))
      have HC6 := Lib.hid (fun wi (hi : Below W14.heap.size W14 wi) => (show wi.cell? ⟨lt, 6, none⟩ = some (.bool p.big) from by rw [HBG.out]; exact (HP14.out.keep HWH.out hi).cell 6))
      have HC8 := Lib.hid (fun wi (hi : Below W14.heap.size W14 wi) => (show wi.cell? ⟨lt, 8, none⟩ = some (.int .u32 (wszN p)) from by rw [HZ_.out]; exact (HP14.out.keep HWH.out hi).cell 8))
      refine wp_region_det (fun wi => Below W14.heap.size W14 wi) (by kernel_rfl) (by kernel_rfl) (Below.refl _ _).drew ?_
      iterate 11 (first
        | (refine wpDet_skip (by rfl) ?_; simp only [Act.put, List.setIfInBounds_toArray, List.set_cons_succ, List.set_cons_zero])
        | (apply wpDet_step
           · rfl
           · (intro wi hi K hK; have hc := (bcell hi).1; go_wp2_with fail
              all_goals first
              | exact hK _ hi
              | exact hi
              | (go_at_call 64; (with_reducible refine Calls.mono (fieldSize_any lt p _ (HC5.out _ hi) (HC8.out _ hi)) ?_); rintro e w5 ⟨rfl, rfl⟩; rw [HZ_.out]; go_wp2_with fail; all_goals first | exact hK _ (hi) | exact hi))
           · kernel_rfl))
      refine wpDet_nil (fun wi hi => ?_)
      have HPi := Lib.hid (HP14.out.keep HWH.out hi)
      clear HP14 gb hbxl hltl hdbl g14 HC5 HC6 HC8
      go_wp2_with fail
      have HP15 := HPi
      clear hi HPi
      generalize wi = W15 at *
      obtain ⟨fts, hfts⟩ : ∃ fts, (2 * nf + 1) * 4 = fts := ⟨_, rfl⟩
      have hfi : ((nf : Int) * 2 + 1) * 4 = (fts : Int) := by omega
      rw [hfi]
      have HAFX : Hid (At (bytesB p) (12 + fts) (numB p.big fo 4)) := Lib.hid (by have := HAF.out; rw [HNF.out, HZ_.out, hfts] at this; exact this)
      rw [hfts] at hfo1
      have HFTS := Lib.hid hfts
      clear hfi hfts
      have gb := HP15.out.box
      have hbxl := HP15.out.bx
      have hltl := HP15.out.lt
      have hdbl := HP15.out.db HWH.out
      have g6 : W15.cell? ⟨lt, 6, none⟩ = some (.bool true) := HP15.out.cell 6
      have g13 : W15.cell? ⟨lt, 13, none⟩ = some (.slice (some ⟨db, 12, none⟩) ((bytesB p).length - 12) (c - 12)) := HP15.out.cell 13
      refine wp_region_det (fun wi => Below W15.heap.size W15 wi) (by kernel_rfl) (by kernel_rfl) (Below.refl _ _).drew ?_
      iterate 12 (first
        | (refine wpDet_skip (by rfl) ?_; simp only [Act.put, List.setIfInBounds_toArray, List.set_cons_succ, List.set_cons_zero])
        | (apply wpDet_step
           · rfl
           · (intro wi hi K hK; have hc := (bcell hi).1; go_wp2_with fail
              all_goals first
              | exact hK _ hi
              | exact hi
              | (go_at_call 50; (with_reducible refine Calls.mono (uint32_any _ db (12 + fts) _ _ (numB p.big fo 4) _ (numB_length _ _ _) ((HP15.out.keep HWH.out hi).mem.at HAFX.out) (by omega) (by omega)) ?_); rintro e w5 ⟨rfl, hb5⟩; rw [HBV.out _ (by omega)]; go_wp2_with fail; all_goals first | exact hK _ (below_next2 hi hb5) | exact below_next2 hi hb5))
           · kernel_rfl))
      refine wpDet_nil (fun wi hi => ?_)
      have HPi := Lib.hid (HP15.out.keep HWH.out hi)
      clear HP15 gb hbxl hltl hdbl g6 g13
      go_wp2_with fail
      have HP16 := HPi
      clear hi HPi
      generalize wi = W16 at *
      have gb := HP16.out.box
      have hbxl := HP16.out.bx
      have hltl := HP16.out.lt
      have hdbl := HP16.out.db HWH.out
      have g13 : W16.cell? ⟨lt, 13, none⟩ = some (.slice (some ⟨db, 12, none⟩) ((bytesB p).length - 12) (c - 12)) := HP16.out.cell 13
      refine wp_region_dett (fun wi => Below W16.heap.size W16 wi) 9 _ (by kernel_rfl) (by kernel_rfl) (by kernel_rfl) rfl rfl (Below.refl _ _).drew ?_
      iterate 9 (first
        | (refine wpDet_skip (by rfl) ?_; simp only [Act.put, List.setIfInBounds_toArray, List.set_cons_succ, List.set_cons_zero])
        | (apply wpDet_step
           · rfl
           · (intro wi hi K hK; have hc := (bcell hi).1; go_wp2_with fail
              all_goals first
              | exact hK _ hi
              | exact hi)
           · kernel_rfl))
      refine wpDet_nil (fun wi hi => ?_)
      have HPi := Lib.hid (HP16.out.keep HWH.out hi)
      clear HP16 gb hbxl hltl hdbl g13
      have gi := HPi.out.free 13
      have gj := HPi.out.lt
      have gk := HPi.out.cell 13
      simp only [List.getElem?_toArray, List.getElem?_cons_succ, List.getElem?_cons_zero] at gk
      go_wp2_with fail
      have HPn := HPi.out.set 13 (.slice (some ⟨db, 12, none⟩) fts (c - 12))
      simp only [List.setIfInBounds_toArray, List.set_cons_succ, List.set_cons_zero] at HPn
      have HP17 := Lib.hid HPn
      generalize wi.setCell { block := lt, off := 13, spot := none } _ = W17 at *
      clear hi gi gj gk HPi HPn
      have gb := HP17.out.box
      have hbxl := HP17.out.bx
      have hltl := HP17.out.lt
      have hdbl := HP17.out.db HWH.out
      have g0 : W17.cell? ⟨lt, 0, none⟩ = some (.slice (some ⟨db, 0, none⟩) (bytesB p).length c) := HP17.out.cell 0
      refine wp_region_dett (fun wi => Below W17.heap.size W17 wi) 9 _ (by kernel_rfl) (by kernel_rfl) (by kernel_rfl) rfl rfl (Below.refl _ _).drew ?_
      iterate 9 (first
        | (refine wpDet_skip (by rfl) ?_; simp only [Act.put, List.setIfInBounds_toArray, List.set_cons_succ, List.set_cons_zero])
        | (apply wpDet_step
           · rfl
           · (intro wi hi K hK; have hc := (bcell hi).1; go_wp2_with fail
              all_goals first
              | exact hK _ hi
              | exact hi)
           · kernel_rfl))
      refine wpDet_nil (fun wi hi => ?_)
      have HPi := Lib.hid (HP17.out.keep HWH.out hi)
      clear HP17 gb hbxl hltl hdbl g0
      have gi := HPi.out.free 15
      have gj := HPi.out.lt
      have gk := HPi.out.cell 15
      simp only [List.getElem?_toArray, List.getElem?_cons_succ, List.getElem?_cons_zero] at gk
      go_wp2_with fail
      have HPn := HPi.out.set 15 (.slice (some ⟨db, fo, none⟩) ((bytesB p).length - fo) (c - fo))
      simp only [List.setIfInBounds_toArray, List.set_cons_succ, List.set_cons_zero] at HPn
      have HP18 := Lib.hid HPn
      generalize wi.setCell { block := lt, off := 15, spot := none } _ = W18 at *
      clear hi gi gj gk HPi HPn
      have gb := HP18.out.box
      have hbxl := HP18.out.bx
      have hltl := HP18.out.lt
      have hdbl := HP18.out.db HWH.out
      have g6 : W18.cell? ⟨lt, 6, none⟩ = some (.bool true) := HP18.out.cell 6
      have g15 : W18.cell? ⟨lt, 15, none⟩ = some (.slice (some ⟨db, fo, none⟩) ((bytesB p).length - fo) (c - fo)) := HP18.out.cell 15
      refine wp_region_dett (fun wi => Below W18.heap.size W18 wi) 12 _ (by kernel_rfl) (by kernel_rfl) (by kernel_rfl) rfl rfl (Below.refl _ _).drew ?_
      iterate 12 (first
        | (refine wpDet_skip (by rfl) ?_; simp only [Act.put, List.setIfInBounds_toArray, List.set_cons_succ, List.set_cons_zero])
        | (apply wpDet_step
           · rfl
           · (intro wi hi K hK; have hc := (bcell hi).1; go_wp2_with fail
              all_goals first
              | exact hK _ hi
              | exact hi
              | (go_at_call 50; (with_reducible refine Calls.mono (uint32_any _ db (fo) _ _ (numB p.big nl 4) _ (numB_length _ _ _) ((HP18.out.keep HWH.out hi).mem.at HAN.out) (by omega) (by omega)) ?_); rintro e w5 ⟨rfl, hb5⟩; rw [HBV.out _ (by omega)]; go_wp2_with fail; all_goals first | exact hK _ (below_next2 hi hb5) | exact below_next2 hi hb5))
           · kernel_rfl))
      refine wpDet_nil (fun wi hi => ?_)
      have HPi := Lib.hid (HP18.out.keep HWH.out hi)
      clear HP18 gb hbxl hltl hdbl g6 g15
      have gi := HPi.out.free 17
      have gj := HPi.out.lt
      have gk := HPi.out.cell 17
      simp only [List.getElem?_toArray, List.getElem?_cons_succ, List.getElem?_cons_zero] at gk
      go_wp2_with fail
      have HPn := HPi.out.set 17 (.int .u32 nl)
      simp only [List.setIfInBounds_toArray, List.set_cons_succ, List.set_cons_zero] at HPn
      have HP19 := Lib.hid HPn
      generalize wi.setCell { block := lt, off := 17, spot := none } _ = W19 at *
      clear hi gi gj gk HPi HPn
      have gb := HP19.out.box
      have hbxl := HP19.out.bx
      have hltl := HP19.out.lt
      have hdbl := HP19.out.db HWH.out
      have g15 : W19.cell? ⟨lt, 15, none⟩ = some (.slice (some ⟨db, fo, none⟩) ((bytesB p).length - fo) (c - fo)) := HP19.out.cell 15
      have g17 : W19.cell? ⟨lt, 17, none⟩ = some (.int .u32 nl) := HP19.out.cell 17
      refine wp_region_dett (fun wi => Below W19.heap.size W19 wi) 13 _ (by kernel_rfl) (by kernel_rfl) (by kernel_rfl) rfl rfl (Below.refl _ _).drew ?_
      iterate 13 (first
        | (refine wpDet_skip (by rfl) ?_; simp only [Act.put, List.setIfInBounds_toArray, List.set_cons_succ, List.set_cons_zero])
        | (apply wpDet_step
           · rfl
           · (intro wi hi K hK; have hc := (bcell hi).1; go_wp2_with fail
              all_goals first
              | exact hK _ hi
              | exact hi)
           · kernel_rfl))
      refine wpDet_nil (fun wi hi => ?_)
      have HPi := Lib.hid (HP19.out.keep HWH.out hi)
      clear HP19 gb hbxl hltl hdbl g15 g17
      have gi := HPi.out.free 15
      have gj := HPi.out.lt
      have gk := HPi.out.cell 15
      simp only [List.getElem?_toArray, List.getElem?_cons_succ, List.getElem?_cons_zero] at gk
      go_wp2_with fail
      have HPn := HPi.out.set 15 (.slice (some ⟨db, fo, none⟩) (nl * 4) (c - fo))
      simp only [List.setIfInBounds_toArray, List.set_cons_succ, List.set_cons_zero] at HPn
      have HP20 := Lib.hid HPn
      generalize wi.setCell { block := lt, off := 15, spot := none } _ = W20 at *
      clear hi gi gj gk HPi HPn
      have gi : W20.cell? ⟨lt, 3, none⟩ = some (.int .i32 1) := HP20.out.cell 3
      have gf := HP20.out.free 3
      have HPf := Lib.hid (HP20.out.set 3 (.int .i32 0))
      simp only [List.setIfInBounds_toArray, List.set_cons_succ, List.set_cons_zero] at HPf
      refine leaves_cons (f := 60) (args := #[]) (by simp) (by simp [go_sem]) ?_
      refine (catchParse_idle _).mono ?_
      rintro e u' w'' ⟨rfl, rfl, rfl⟩
      refine leaves_cons (f := 59) (args := #[.pointer (some ⟨lt, 3, none⟩)]) (by simp [settle]) (by simp [go_sem]) ?_
      refine (Go.MuLone.unlock_deferred muLib ⟨lt, 3, none⟩ _ _ gi gf).mono ?_
      rintro e u' w'' ⟨rfl, rfl, rfl⟩
      simp [Leaves, settle, results, Try.results43, go_sem]
      refine ⟨HPf.out.fr, HPf.out.row.trans ?_⟩
      simp only [rowE, rowL, ftV, filV, bytesV]
      rw [HBG.out, HQ.out, HZ_.out, HNF.out, HFO.out, HNL.out, HFTS.out]
      rfl
end Go.Proofs.Ytoedlabfiialfaa
