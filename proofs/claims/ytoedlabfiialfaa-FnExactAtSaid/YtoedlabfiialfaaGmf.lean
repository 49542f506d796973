/-
  The walk through go12MapFiles: every file of the line table is put into a map.
-/
import Derived.Test.YtoedlabfiialfaaFmap
import Derived.Laws.IdiomRangeMap
namespace Go.Proofs.Ytoedlabfiialfaa
open Go.RowKit Go.ChangeMaps

set_option maxRecDepth 100000 in
set_option maxHeartbeats 1000000 in
theorem initFileMap_old (lt db c b1 b2 b3 : Nat) (p : Pg) (w : World) (h : LtM w lt db c b1 b2 0 (.map (some b3)) p) :
    Calls Try.prog 79 #[.pointer (some ⟨lt, 0, none⟩)] w fun e w' => e = .returned (.tuple #[]) ∧ LtM w' lt db c b1 b2 0 (.map (some b3)) p ∧ Fr (fun j => j = lt) w w' := by
  have hnq : ∀ W : World, (binOp .neq 102 (.map (some b3)) (.map none)).run Try.prog W = .ok (.bool true) W := fun W => by rfl
  have hlt := h.ok.lt
  have h3 : w.cell? ⟨lt, 3, none⟩ = some (.int .i32 0) := h.cell 3
  have f3 := h.free 3
  have HH := Lib.hid h
  clear h
  go_enter_defers Try.func79, Try.ntmps79
  go_wp2_with fail
  refine Calls.mono (Go.MuLone.lock_free muLib ⟨lt, 3, none⟩ w h3 f3) ?_
  rintro e w1 ⟨rfl, hw1⟩
  have H1 := HH.out.set3 1
  rw [← hw1] at H1
  have HF1 : Hid (Fr (fun j => j = lt) w w1) := Lib.hid (by rw [hw1]; exact (Fr.refl (fun j => j = lt) w).set ⟨lt, 3, none⟩ (fun _ => rfl) _)
  have hlt1 := H1.ok.lt
  have g20 : w1.cell? ⟨lt, 20, none⟩ = some (.map (some b3)) := H1.cell 20
  have gi : w1.cell? ⟨lt, 3, none⟩ = some (.int .i32 1) := H1.cell 3
  have gf := H1.free 3
  have HL1 := Lib.hid H1
  clear H1 hw1 h3 f3 HH
  go_wp2_with fail
  refine leaves_cons (f := 59) (args := #[.pointer (some ⟨lt, 3, none⟩)]) (by simp) (by simp [go_sem]) ?_
  refine (Go.MuLone.unlock_deferred muLib ⟨lt, 3, none⟩ _ _ gi gf).mono ?_
  rintro e u' w'' ⟨rfl, rfl, rfl⟩
  simp [Leaves, settle, results, Try.results79, go_sem]
  exact ⟨HL1.out.set3 0, HF1.out.set ⟨lt, 3, none⟩ (fun _ => rfl) _⟩

theorem catchMapFiles_idle (w : World) :
    CallsD Try.prog 78 #[] .returning w fun e u' w' => e = .returned (.tuple #[]) ∧ u' = .returning ∧ w' = w := by
  refine callsD_of_wpS Try.func78 rfl fun c₀ cs hu => ?_
  apply wpS_region
  cases c₀
  simp_all [wpOpsS, go_sem, recoverD, Try.ntmps78, bodyPostS, results, Try.results78]

/-- the map has just the files for its keys, and ov for each value -/
def FilesOk (p : Pg) (ov : Value) (lm : List (ByteArray × Value)) : Prop := (∀ x ∈ lm, x.2 = ov ∧ InL p.files x.1) ∧ ∀ s, InL p.files s → ∃ x ∈ lm, x.1 = s
abbrev fE (p : Pg) : Array MapEntry := (entsFrom kS (fileL p.files 1) 0).toArray
theorem fE_mem {p : Pg} {e : MapEntry} (h : e ∈ (fE p).toList) : ∃ k, ∃ hk : k < p.files.length, e = ⟨kS p.files[k], .int .u32 ((1 + k : Nat) : Int), k⟩ := by
  obtain ⟨k, hk, he⟩ := List.getElem_of_mem h
  have hk1 : k < (fileL p.files 1).length := by simpa [entsFrom_length] using hk
  have hk2 : k < p.files.length := by rwa [fileL_length] at hk1
  have := entsFrom_get kS (fileL p.files 1) 0 k hk1
  rw [fileL_get] at this
  refine ⟨k, hk2, ?_⟩
  rw [← he]
  have h2 : (fE p).toList[k]? = some (fE p).toList[k] := List.getElem?_eq_getElem hk
  simp only at h2
  rw [this] at h2
  simpa using (Option.some.inj h2).symm
theorem fE_at {p : Pg} {k : Nat} (hk : k < p.files.length) : (⟨kS p.files[k], .int .u32 ((1 + k : Nat) : Int), k⟩ : MapEntry) ∈ (fE p).toList := by
  have hk1 : k < (fileL p.files 1).length := by rwa [fileL_length]
  have := entsFrom_get kS (fileL p.files 1) 0 k hk1
  rw [fileL_get] at this
  simp only [Nat.zero_add] at this
  exact List.mem_of_getElem? this
theorem entsFrom_born (mk : ByteArray → Value) (l : List (ByteArray × Value)) (n : Nat) : (entsFrom mk l n).map (·.born) = List.range' n l.length := by
  induction l generalizing n with
  | nil => rfl
  | cons x l ih => simp [entsFrom, ih, List.range'_succ]
/-- in the middle of the range: what has been seen is in the map bf -/
structure GmR (w0 : World) (lt db c b1 b2 b3 bf r : Nat) (ov : Value) (p : Pg) (seen : Array Nat) (lm : List (ByteArray × Value)) (w : World) : Prop where
  t : LtM w lt db c b1 b2 0 (.map (some b3)) p
  m3 : MapL kS w b3 (fileL p.files 1)
  it : w.heap[r]? = some (.mapIter (some b3) p.files.length seen p.files.length)
  mf : MapL kS w bf lm
  ok : ∀ x ∈ lm, x.2 = ov ∧ InL p.files x.1
  has : ∀ k (h : k < p.files.length), seen.contains k = true → ∃ x ∈ lm, x.1 = p.files[k]
  fr : Fr (fun j => j = lt ∨ j = b2 ∨ j = bf) w0 w

set_option maxRecDepth 100000 in
set_option maxHeartbeats 2000000 in
theorem go12MapFiles_any (lt db c b1 b2 bf : Nat) (oa : Addr) (p : Pg) (w : World) (h : LtM w lt db c b1 b2 0 (.map none) p) (hf : MapL kS w bf []) (hne : bf ≠ lt ∧ bf ≠ db ∧ bf ≠ b1 ∧ bf ≠ b2) :
    Calls Try.prog 55 #[.pointer (some ⟨lt, 0, none⟩), .map (some bf), .pointer (some oa)] w fun e w' => e = .returned (.tuple #[]) ∧ ∃ b3 lm, w.heap.size ≤ b3 ∧ LtM w' lt db c b1 b2 0 (.map (some b3)) p ∧
      MapL kS w' b3 (fileL p.files 1) ∧ MapL kS w' bf lm ∧ FilesOk p (.pointer (some oa)) lm ∧ Fr (fun j => j = lt ∨ j = b2 ∨ j = bf) w w' := by
  have hrg : ∀ (b : Nat) (es : Array MapEntry) (cl : Nat) (W : World), W.heap[b]? = some (.map es cl) → (Instr.range 102 (.map (some b))).run Try.prog W = .ok (.pointer (some ⟨W.heap.size, 0, none⟩)) (W.alloc (.mapIter (some b) cl #[] cl)) :=
    fun b es cl W hb => run_range_map W _ _ _ b es cl Try.underlying102 hb
  have HRG := Lib.hid hrg
  clear hrg
  have hlt := h.ok.lt
  have hbf := hf.lt
  have HC := Lib.hid (initFileMap_new lt db c b1 b2 p w h)
  have HF := Lib.hid hf
  have HL0 := Lib.hid h
  clear h hf
  go_enter_defers Try.func55, Try.ntmps55
  go_wp2_with fail
  refine Calls.mono HC.out ?_
  rintro e w1 ⟨rfl, b3, hb3, H1, hm3, hfr⟩
  have hlt1 := H1.ok.lt
  have g20 : w1.cell? ⟨lt, 20, none⟩ = some (.map (some b3)) := H1.cell 20
  have hrun := HRG.out b3 _ _ w1 hm3
  rw [fileL_length] at hrun
  have HX := Lib.hid (And.intro H1 (And.intro hm3 hfr))
  clear H1 hm3 hfr
  go_wp2_with fail
  generalize hW : w1.alloc _ = W
  have hWb : Below w1.heap.size w1 W := by rw [← hW]; exact (Below.refl _ _).alloc (Nat.le_refl _) _
  have hi0 : W.heap[w1.heap.size]? = some (.mapIter (some b3) p.files.length #[] p.files.length) := by rw [← hW]; exact heap_alloc_new _ _
  have HR0 : Hid (GmR w lt db c b1 b2 b3 bf w1.heap.size (.pointer (some oa)) p #[] [] W) := Lib.hid ⟨HX.out.1.keep hWb, HX.out.2.1.keep hWb, hi0,
    (HF.out.fr HX.out.2.2 (fun e => by rcases e with e | e; exact hne.1 e; exact hne.2.2.2 e)).keep hWb, fun x hx => (by cases hx), fun k _ hk => (by simp at hk),
    (HX.out.2.2.weak (fun j _ e => by rcases e with e | e; exact .inl e; exact .inr (.inl e))).trans (Fr.of_below hWb)⟩
  clear hW hWb hi0 hrun g20
  have hlr : Hid (lt < w1.heap.size ∧ db < w1.heap.size ∧ b1 < w1.heap.size ∧ b2 < w1.heap.size ∧ b3 < w1.heap.size ∧ bf < w1.heap.size) :=
    Lib.hid ⟨hlt1, HX.out.1.ok.db, HX.out.1.m1.lt, HX.out.1.m2.lt, HX.out.2.1.lt, Nat.lt_of_lt_of_le hbf HX.out.2.2.size⟩
  go_loopg [6] ((leftOf (fE p) #[]).size) (fun kx s6 wr => ∃ (seen : Array Nat) (lm : List (ByteArray × Value)), (leftOf (fE p) seen).size ≤ kx ∧ GmR w lt db c b1 b2 b3 bf w1.heap.size (.pointer (some oa)) p seen lm wr)
  case atStart => exact ⟨#[], [], Nat.le_refl _, HR0.out⟩
  case round =>
    obtain ⟨seen, lm, hg, hR⟩ := hrel
    have HR := Lib.hid hR
    have hm3 : wr.heap[b3]? = some (.map (fE p) p.files.length) := by
      have := hR.m3
      unfold MapL at this
      rwa [fileL_length] at this
    rcases run_next_at (P := Try.prog) wr 0 w1.heap.size b3 p.files.length p.files.length seen (fE p) p.files.length hR.it hm3 (fun x hx => by obtain ⟨k, hk, rfl⟩ := fE_mem hx; exact hk) (Nat.le_refl _) with ⟨h0, hrun⟩ | ⟨e, he, w2, hal, hrun⟩
    · have hn : ∀ ty, (Instr.next (.pointer (some ⟨w1.heap.size, 0, none⟩)) false ty).run Try.prog wr = .ok (.tuple #[.bool false]) wr := fun ty => hrun
      have HFin : Hid (FilesOk p (.pointer (some oa)) lm) := Lib.hid ⟨hR.ok, fun s hs => by
        obtain ⟨k, hk, rfl⟩ := hs
        exact hR.has k hk (all_seen (fE p) seen h0 _ (fE_at hk))⟩
      clear hR hrun hm3 h0
      go_wp2_with fail
      refine leaves_cons (f := 78) (args := #[]) (by simp) (by simp [go_sem]) ?_
      refine (catchMapFiles_idle _).mono ?_
      rintro e u' w'' ⟨rfl, rfl, rfl⟩
      simp [Leaves, settle, results, Try.results55, go_sem]
      exact ⟨b3, hb3, HR.out.t, HR.out.m3, lm, HR.out.mf, HFin.out, HR.out.fr⟩
    · obtain ⟨hem, hes⟩ := mem_left he
      have hshr := left_shrinks (fE p) seen e he
      obtain ⟨k, hk, rfl⟩ := fE_mem hem
      have hal2 : Fr (fun j => j = w1.heap.size) wr w2 := by rcases hal with rfl | rfl; exact Fr.refl _ _; exact Fr.of_below (Below.refl _ _).drew
      have hr2 : w2.heap[w1.heap.size]? = some (.mapIter (some b3) p.files.length seen p.files.length) := by rcases hal with rfl | rfl <;> exact hR.it
      have hm2 : w2.heap[b3]? = some (.map (fE p) p.files.length) := by rcases hal with rfl | rfl <;> exact hm3
      simp only at hrun hshr hes
      obtain ⟨W2, hW2⟩ : ∃ W2, setBlock w2 w1.heap.size (.mapIter (some b3) p.files.length (seen.push k) p.files.length) = W2 := ⟨_, rfl⟩
      have hset := Go.MapKept.heap_set (o' := .mapIter (some b3) p.files.length (seen.push k) p.files.length) hr2
      have hF2 : Fr (fun j => j = w1.heap.size) wr W2 := by
        rw [← hW2]
        exact ⟨hal2.os, hal2.tape, hal2.output, by simpa [setBlock] using hal2.size, fun i hi hs => (hset.2 i hs).trans (hal2.block i hi hs)⟩
      have hi2 : W2.heap[w1.heap.size]? = some (.mapIter (some b3) p.files.length (seen.push k) p.files.length) := by rw [← hW2]; exact hset.1
      have hL := hlr.out
      have hm22 : W2.heap[b3]? = some (.map (fE p) p.files.length) := by rw [← hW2]; exact (hset.2 b3 (by omega)).trans hm2
      rw [hW2] at hrun
      have hn : ∀ ty, (Instr.next (.pointer (some ⟨w1.heap.size, 0, none⟩)) false ty).run Try.prog wr = .ok (.tuple #[.bool true, .string p.files[k], .int .u32 ((1 + k : Nat) : Int)]) W2 := fun ty => hrun
      have hen := run_entry_at (P := Try.prog) W2 w1.heap.size b3 p.files.length seen (fE p) p.files.length _ hi2 hm22 hem (by
        show ((entsFrom kS (fileL p.files 1) 0).map (·.born)).Nodup
        rw [entsFrom_born]; exact List.nodup_range')
      simp only at hen
      have hmf2 : MapL kS W2 bf lm := hR.mf.fr hF2 (by omega)
      obtain ⟨w3, hup, hmf3, hF3⟩ := hmf2.store KS Try.underlying80 p.files[k] (.pointer (some oa))
      have HN : Hid (GmR w lt db c b1 b2 b3 bf w1.heap.size (.pointer (some oa)) p (seen.push k) (putL p.files[k] (.pointer (some oa)) lm) w3) := Lib.hid
        ⟨(hR.t.fr hF2 (by omega) (by omega) (by omega) (by omega)).fr hF3 (fun e => hne.1 e.symm) (fun e => hne.2.1 e.symm) (fun e => hne.2.2.1 e.symm) (fun e => hne.2.2.2 e.symm),
          (hR.m3.fr hF2 (by omega)).fr hF3 (by have := hb3; omega), (hF3.block _ (Array.getElem?_eq_some_iff.1 hi2).1 (by omega)).trans hi2, hmf3,
          fun x hx => by
            rcases mem_putL hx with rfl | hx
            · exact ⟨rfl, k, hk, rfl⟩
            · exact hR.ok x hx,
          fun j hj hs => by
            by_cases hjk : j = k
            · subst hjk; exact putL_has _ _ _
            · refine putL_old (hR.has j hj ?_)
              rw [Array.contains_push] at hs
              simpa [hjk] using hs,
          (hR.fr.new hF2 (by have := HX.out.2.2.size; omega)).trans (hF3.weak (fun j _ e => .inr (.inr e)))⟩
      have HSH := Lib.hid hshr
      clear hR hrun hm3 hal hal2 hr2 hm2 hset hF2 hi2 hm22 hmf2 hmf3 hF3 hW2 hem hes he hshr
      generalize p.files[k] = s at *
      go_wp2_with fail
      go_roundg ((leftOf (fE p) (seen.push k)).size)
      case measure => have := HSH.out; omega
      case rel => exact ⟨seen.push k, _, Nat.le_refl _, HN.out⟩
end Go.Proofs.Ytoedlabfiialfaa
