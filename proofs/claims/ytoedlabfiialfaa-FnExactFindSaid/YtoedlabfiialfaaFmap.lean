/-
  The walks through initFileMap and go12MapFiles: the map of the files.
-/
import Derived.Test.YtoedlabfiialfaaNam
import Derived.Maps.Range
import Derived.Deep.LoopGhost
namespace Go.Proofs.Ytoedlabfiialfaa
open Go.RowKit Go.ChangeMaps

abbrev kS (s : ByteArray) : Value := .string s
theorem KS : KeyKind Try.prog 9 kS .string where
  under := Try.underlying9
  same a b := by
    show some (a == b) = some (decide (a = b))
    rw [ba_beq]
  bits a := by
    show (a == a) = true
    rw [ba_beq]
    simp
  check e a w := by
    show Sem.run _ (Instr.checkKey e (9999 + 1) _ _) w = _
    unfold Instr.checkKey
    simp only [Sem.run_bind, run_underlying Try.underlying9, Result.andThen_ok, Sem.run_pure]
/-- the files and their numbers from n on -/
def fileL : List ByteArray → Nat → List (ByteArray × Value)
  | [], _ => []
  | f :: fs, n => (f, .int .u32 n) :: fileL fs (n + 1)
theorem fileL_length (fs : List ByteArray) (n : Nat) : (fileL fs n).length = fs.length := by
  induction fs generalizing n with
  | nil => rfl
  | cons f fs ih => simp [fileL, ih]
theorem fileL_append (fs gs : List ByteArray) (n : Nat) : fileL (fs ++ gs) n = fileL fs n ++ fileL gs (n + fs.length) := by
  induction fs generalizing n with
  | nil => rfl
  | cons f fs ih => simp only [List.cons_append, fileL, ih, List.length_cons]; rw [show n + 1 + fs.length = n + (fs.length + 1) by omega]
theorem fileL_get (fs : List ByteArray) (n k : Nat) (hk : k < (fileL fs n).length) : (fileL fs n)[k] = (fs[k]'(by rwa [fileL_length] at hk), .int .u32 ((n + k : Nat) : Int)) := by
  induction fs generalizing n k with
  | nil => simp [fileL] at hk
  | cons f fs ih =>
    cases k with
    | zero => rfl
    | succ k =>
      simp only [fileL, List.getElem_cons_succ]
      rw [ih (n + 1) k (by simpa [fileL] using hk), show n + 1 + k = n + (k + 1) by omega]
theorem fileL_step {fs : List ByteArray} {k : Nat} (hk : k < fs.length) (hn : ¬ InL (fs.take k) fs[k]) : putL fs[k] (.int .u32 ((k + 1 : Nat) : Int)) (fileL (fs.take k) 1) = fileL (fs.take (k + 1)) 1 := by
  have hf : findL fs[k] (fileL (fs.take k) 1) 0 = none := by
    rw [findL_none]
    intro x hx he
    obtain ⟨j, hj, rfl⟩ := List.getElem_of_mem hx
    rw [fileL_get] at he
    have hj' : j < (fs.take k).length := by rwa [fileL_length] at hj
    exact hn ⟨j, hj', he⟩
  unfold putL
  rw [hf]
  rw [List.take_succ_eq_append_getElem hk, fileL_append]
  simp only [fileL, List.length_take]
  rw [Nat.min_eq_left (Nat.le_of_lt hk), Nat.add_comm 1 k]

theorem LtM.set3 {w : World} {lt db c b1 b2 : Nat} {lk : Int} {m3 : Value} {p : Pg} (h : LtM w lt db c b1 b2 lk m3 p) (v : Int) : LtM (w.setCell ⟨lt, 3, none⟩ (.int .i32 v)) lt db c b1 b2 v m3 p := by
  obtain ⟨n1, n2, n3, n4, n5, n6⟩ := h.ne
  have f : Fr (fun k => k = lt) w (w.setCell ⟨lt, 3, none⟩ (.int .i32 v)) := (Fr.refl (fun k => k = lt) w).set ⟨lt, 3, none⟩ (fun _ => rfl) _
  exact ⟨h.well, heap_setCell_same w lt 3 _ _ _ h.row, h.mem.fr f (fun e => n1 e.symm), h.hc, h.cm, h.m1.fr f (fun e => n2 e.symm), h.m2.fr f (fun e => n3 e.symm), h.ne⟩
theorem LtM.set20 {w : World} {lt db c b1 b2 : Nat} {lk : Int} {m3 : Value} {p : Pg} (h : LtM w lt db c b1 b2 lk m3 p) (v : Value) : LtM (w.setCell ⟨lt, 20, none⟩ v) lt db c b1 b2 lk v p := by
  obtain ⟨n1, n2, n3, n4, n5, n6⟩ := h.ne
  have f : Fr (fun k => k = lt) w (w.setCell ⟨lt, 20, none⟩ v) := (Fr.refl (fun k => k = lt) w).set ⟨lt, 20, none⟩ (fun _ => rfl) _
  exact ⟨h.well, heap_setCell_same w lt 20 _ _ _ h.row, h.mem.fr f (fun e => n1 e.symm), h.hc, h.cm, h.m1.fr f (fun e => n2 e.symm), h.m2.fr f (fun e => n3 e.symm), h.ne⟩
theorem LtM.cell {w : World} {lt db c b1 b2 : Nat} {lk : Int} {m3 : Value} {p : Pg} (h : LtM w lt db c b1 b2 lk m3 p) (i : Nat) : w.cell? ⟨lt, i, none⟩ = (rowE db c p lk (.map (some b1)) (.map (some b2)) m3)[i]? := cell_of_row w lt i _ _ _ h.row
theorem LtM.free {w : World} {lt db c b1 b2 : Nat} {lk : Int} {m3 : Value} {p : Pg} (h : LtM w lt db c b1 b2 lk m3 p) (i : Nat) : w.frozen? ⟨lt, i, none⟩ = false := by simp [World.frozen?, h.row]

theorem Fr.new {S : Nat → Prop} {a b c : World} {g : Nat} (h : Fr S a b) (k : Fr (fun j => j = g) b c) (hg : a.heap.size ≤ g) : Fr S a c :=
  ⟨k.os.trans h.os, k.tape.trans h.tape, k.output.trans h.output, Nat.le_trans h.size k.size, fun i hi hs => (k.block i (Nat.lt_of_lt_of_le hi h.size) (fun e => by subst e; omega)).trans (h.block i hi hs)⟩
theorem filtab_le (p : Pg) : filesOff p + 4 * (p.files.length + 1) ≤ (bytesB p).length := by
  rcases Nat.eq_zero_or_pos p.files.length with h | h
  · have := (bytes_nfiles p).le
    rw [numB_length] at this
    omega
  · have := (bytes_fno p (p.files.length - 1) (by omega)).le
    rw [numB_length] at this
    omega
/-- in the middle of initFileMap's loop: k files are in the map b3 -/
def FmR (w0 : World) (lt db c b1 b2 b3 : Nat) (p : Pg) (k : Nat) (w : World) : Prop :=
  LtM w lt db c b1 b2 1 (.map none) p ∧ MapL kS w b3 (fileL (p.files.take k) 1) ∧ Fr (fun j => j = lt ∨ j = b2) w0 w ∧ w0.heap.size ≤ b3

set_option maxRecDepth 100000 in
set_option maxHeartbeats 2000000 in
theorem initFileMap_new (lt db c b1 b2 : Nat) (p : Pg) (w : World) (h : LtM w lt db c b1 b2 0 (.map none) p) :
    Calls Try.prog 79 #[.pointer (some ⟨lt, 0, none⟩)] w fun e w' => e = .returned (.tuple #[]) ∧ ∃ b3, w.heap.size ≤ b3 ∧ LtM w' lt db c b1 b2 0 (.map (some b3)) p ∧ MapL kS w' b3 (fileL p.files 1) ∧ Fr (fun j => j = lt ∨ j = b2) w w' := by
  have hmm : ∀ (w : World), (Instr.makeMap 102 none).run Try.prog w = .ok (.map (some w.heap.size)) (w.alloc (.map #[] 0)) := fun _ => rfl
  have hnq : ∀ W : World, (binOp .neq 102 (.map none) (.map none)).run Try.prog W = .ok (.bool false) W := fun W => by rfl
  have hlt := h.ok.lt
  have h3 : w.cell? ⟨lt, 3, none⟩ = some (.int .i32 0) := h.cell 3
  have f3 := h.free 3
  have HH := Lib.hid h
  clear h
  go_enter_defers Try.func79, Try.ntmps79
  go_wp2_with fail
  refine Calls.mono (Go.MuLone.lock_free muLib ⟨lt, 3, none⟩ w h3 f3) ?_
  rintro e w1 ⟨rfl, hw1⟩
  have H1 := HH.out.set3 1
  rw [← hw1] at H1
  have HF1 : Hid (Fr (fun j => j = lt ∨ j = b2) w w1) := Lib.hid (by rw [hw1]; exact (Fr.refl _ w).set ⟨lt, 3, none⟩ (fun _ => .inl rfl) _)
  have hlt1 := H1.ok.lt
  have g20 : w1.cell? ⟨lt, 20, none⟩ = some (.map none) := H1.cell 20
  have g5 : w1.cell? ⟨lt, 5, none⟩ = some (.int .i64 2) := H1.cell 5
  have HL1 := Lib.hid H1
  clear H1 hw1 h3 f3 HH
  have hfl := HL1.out.well.head.sl
  go_wp2_with fail
  generalize hW : w1.alloc _ = W
  have hWb : Below w1.heap.size w1 W := by rw [← hW]; exact (Below.refl _ _).alloc (Nat.le_refl _) _
  have hR0 : FmR w lt db c b1 b2 w1.heap.size p 0 W := by
    refine ⟨HL1.out.keep hWb, ?_, HF1.out.trans (Fr.of_below hWb), HF1.out.size⟩
    unfold MapL
    rw [← hW, heap_alloc_new]
    rfl
  have HR0 := Lib.hid hR0
  have hb3 : Hid (w.heap.size ≤ w1.heap.size) := Lib.hid HF1.out.size
  clear hW hR0 hWb g20 g5
  go_loopw [3] (fun i wr => ∃ k : Nat, k ≤ p.files.length ∧ i = .int .u32 ((k + 1 : Nat) : Int) ∧ FmR w lt db c b1 b2 w1.heap.size p k wr) (fun i _ => p.files.length + 1 - (intOf i).toNat)
  case atStart => exact ⟨0, Nat.zero_le _, rfl, HR0.out⟩
  case round =>
    obtain ⟨k, hk, rfl, hR⟩ := hrel
    have HR := Lib.hid hR
    have hltr := hR.1.ok.lt
    have r17 : wr.cell? ⟨lt, 17, none⟩ = some (.int .u32 ((p.files.length + 1 : Nat) : Int)) := hR.1.cell 17
    clear hR
    by_cases hlt2 : k < p.files.length
    · have hat0 := bytes_fno p k hlt2
      have hle := hat0.le
      rw [numB_length] at hle
      have hcc := HL1.out.hc
      have hcm := HL1.out.cm
      unfold maxLen at hcm
      have hll := HL1.out.well.len_le.1
      have hat2 := Lib.hid (bytes_file p k hlt2)
      have htx := Lib.hid (HL1.out.well.files k hlt2)
      have hfs := Lib.hid (fileL_step hlt2 (HL1.out.well.files k hlt2).2)
      have hfk0 := HL1.out.well.fof_le k hlt2
      obtain ⟨fo, hfo⟩ : ∃ fo, filesOff p = fo := ⟨_, rfl⟩
      obtain ⟨fk, hfk⟩ : ∃ fk, fofN p.files (baseN p) k = fk := ⟨_, rfl⟩
      have hft := filtab_le p
      rw [hfo] at hle hft
      rw [hfo, hfk] at hat0
      rw [hfk] at hat2 hfk0
      have HV := Lib.hid (numV_4 (big := p.big) (N := fk) (by omega))
      have HU := Lib.hid (fun W' (h' : LtM W' lt db c b1 b2 1 (.map none) p) o n c' (ho : o = fo + 4 * (k + 1)) (hn : 4 ≤ n) (hc : n ≤ c') => uint32_any p.big db o n c' (numB p.big fk 4) W' (numB_length _ _ _) (ho ▸ h'.mem.at hat0) hn hc)
      have HC15 := Lib.hid (fun W' (h' : LtM W' lt db c b1 b2 1 (.map none) p) => (show W'.cell? ⟨lt, 15, none⟩ = some (.slice (some ⟨db, fo, none⟩) ((p.files.length + 1) * 4) (c - fo)) by rw [← hfo]; exact h'.cell 15))
      clear hat0 hfo hfk
      generalize p.files[k] = s at *
      go_wp2_with fail
      refine wp_region_det (fun wi => LtM wi lt db c b1 b2 1 (.map none) p ∧ Fr (fun j => j = b2) wr wi) (by kernel_rfl) (by kernel_rfl) ⟨HR.out.1.keep (Below.refl _ _).drew, Fr.of_below (Below.refl _ _).drew⟩ ?_
      iterate 15 (first
        | (refine wpDet_skip (by rfl) ?_; simp only [Act.put, List.setIfInBounds_toArray, List.set_cons_succ, List.set_cons_zero])
        | (apply wpDet_step
           · rfl
           · (intro wi hi K hK; have q6 := hi.1.ok.c6; have q15 := HC15.out wi hi.1; have ql := hi.1.ok.lt; have HI := Lib.hid hi; clear hi; go_wp2_with fail
              all_goals first
              | exact hK _ HI.out
              | exact HI.out
              | (go_at_call 50; (with_reducible refine Calls.mono (HU.out _ HI.out.1 _ _ _ (by omega) (by omega) (by omega)) ?_); rintro e w5 ⟨rfl, hb5⟩; rw [HV.out]; go_wp2_with fail; all_goals first | exact hK _ ⟨HI.out.1.keep hb5, HI.out.2.trans (Fr.of_below hb5)⟩ | exact ⟨HI.out.1.keep hb5, HI.out.2.trans (Fr.of_below hb5)⟩)
              | (go_at_call 90; (with_reducible refine Calls.mono (string_any lt db c b1 b2 1 _ p fk s _ HI.out.1 hat2.out htx.out.1) ?_); rintro e w5 ⟨rfl, h5, f5⟩; go_wp2_with fail; all_goals first | exact hK _ ⟨h5, HI.out.2.trans f5⟩ | exact ⟨h5, HI.out.2.trans f5⟩))
           · kernel_rfl))
      refine wpDet_nil (fun wi hi => ?_)
      have hb2 : b2 < w1.heap.size := HL1.out.m2.lt
      have hmi : MapL kS wi w1.heap.size (fileL (p.files.take k) 1) := HR.out.2.1.fr hi.2 (fun e => by omega)
      obtain ⟨w', hr, hm', hf'⟩ := hmi.store KS Try.underlying102 s (.int .u32 ((k : Int) + 1))
      have hfs' : putL s (.int .u32 ((k : Int) + 1)) (fileL (p.files.take k) 1) = fileL (p.files.take (k + 1)) 1 := hfs.out
      rw [hfs'] at hm'
      have hlt0 : lt < w1.heap.size := hlt1
      have hdb0 : db < w1.heap.size := HL1.out.ok.db
      have hb1 : b1 < w1.heap.size := HL1.out.m1.lt
      have HN : Hid (FmR w lt db c b1 b2 w1.heap.size p (k + 1) w') := Lib.hid ⟨hi.1.fr hf' (by omega) (by omega) (by omega) (by omega), hm',
        (HR.out.2.2.1.trans (hi.2.weak (fun j _ e => .inr e))).new hf' hb3.out, HR.out.2.2.2⟩
      clear hmi hm' hf' hfs' hi
      go_wp2_with fail
      exact ⟨⟨k + 1, hlt2, by go_num, HN.out⟩, by simp [intOf]; omega⟩
    · obtain rfl : k = p.files.length := by omega
      have r20 : wr.cell? ⟨lt, 20, none⟩ = some (.map none) := HR.out.1.cell 20
      have f20 := HR.out.1.free 20
      have HS := Lib.hid (HR.out.1.set20 (.map (some w1.heap.size)))
      go_wp2_with fail
      have gi : (wr.setCell ⟨lt, 20, none⟩ (.map (some w1.heap.size))).cell? ⟨lt, 3, none⟩ = some (.int .i32 1) := HS.out.cell 3
      have gf := HS.out.free 3
      refine leaves_cons (f := 59) (args := #[.pointer (some ⟨lt, 3, none⟩)]) (by simp) (by simp [go_sem]) ?_
      refine (Go.MuLone.unlock_deferred muLib ⟨lt, 3, none⟩ _ _ gi gf).mono ?_
      rintro e u' w'' ⟨rfl, rfl, rfl⟩
      simp [Leaves, settle, results, Try.results79, go_sem]
      have hne : w1.heap.size ≠ lt := by omega
      refine ⟨w1.heap.size, hb3.out, HS.out.set3 0, ?_, ?_⟩
      · have := HR.out.2.1
        rw [List.take_length] at this
        exact (this.fr ((Fr.refl (fun j => j = lt) wr).set ⟨lt, 20, none⟩ (fun _ => rfl) _) hne).fr ((Fr.refl (fun j => j = lt) _).set ⟨lt, 3, none⟩ (fun _ => rfl) _) hne
      · exact (HR.out.2.2.1.set ⟨lt, 20, none⟩ (fun _ => .inl rfl) _).set ⟨lt, 3, none⟩ (fun _ => .inl rfl) _
end Go.Proofs.Ytoedlabfiialfaa
