/-
  The walk through go12PCToLine: IsZero, entryPC, and the line of a place.
-/
import Derived.Test.YtoedlabfiialfaaGreatFf
import Derived.Test.YtoedlabfiialfaaGreatVal
import Derived.Defers
import Derived.Recover
namespace Go.Proofs.YtoedlabfiialfaaGreat
open Go.RowKit

set_option maxRecDepth 100000 in
set_option maxHeartbeats 1000000 in
theorem isZero_yes (w : World) : Calls Tryz.prog 65 #[fdz] w fun e w' => e = .returned (.bool true) ∧ Below w.heap.size w w' := by
  have HA := Lib.hid (fun o => (Below.refl w.heap.size w).alloc (Nat.le_refl _) o)
  have hs : ∀ W : World, (binOp .eql 31 (.slice none 0 0) (.slice none 0 0)).run Tryz.prog W = .ok (.bool true) W := fun W => by rfl
  unfold fdz
  go_enter Tryz.func65, Tryz.ntmps65
  go_wp2_with fail
  go_ret
  exact ⟨rfl, HA.out _⟩
set_option maxRecDepth 100000 in
set_option maxHeartbeats 1000000 in
theorem isZero_no (lt db c k : Nat) (p : Pg) (w : World) : Calls Tryz.prog 65 #[fdv lt db c k p] w fun e w' => e = .returned (.bool false) ∧ Below w.heap.size w w' := by
  have HA := Lib.hid (fun o => (Below.refl w.heap.size w).alloc (Nat.le_refl _) o)
  unfold fdv
  generalize headN p + k * recN p = off at *
  generalize (bytesB p).length - off = n at *
  generalize c - off = m at *
  go_enter Tryz.func65, Tryz.ntmps65
  go_wp2_with fail
  go_ret
  exact ⟨rfl, HA.out _⟩
set_option maxRecDepth 100000 in
set_option maxHeartbeats 1000000 in
theorem entryPC_any (lt db c k B : Nat) (p : Pg) (w : World) (h : LtOk w lt db c p) (hk : k < p.funcs.length)
    (hB0 : w.cell? ⟨B, 0, none⟩ = some (.pointer (some ⟨lt, 0, none⟩)))
    (hB1 : w.cell? ⟨B, 1, none⟩ = some (.slice (some ⟨db, headN p + k * recN p, none⟩) ((bytesB p).length - (headN p + k * recN p)) (c - (headN p + k * recN p)))) :
    Calls Tryz.prog 66 #[.pointer (some ⟨B, 0, none⟩)] w fun e w' => e = .returned (.int .u64 (bndN p k)) ∧ Below w.heap.size w w' := by
  have hlt := h.lt
  have hBl := World.block_lt_of_cell? w ⟨B, 0, none⟩ hB0
  have c5 := h.c5
  have hfr := (bytes_rec p k hk).le
  rw [recB_length] at hfr
  have hm := Lib.hid (h.mem.at (bytes_entry p k hk))
  have hbn : bndN p k < 4294967296 := by have := h.well.bnd_le k (Nat.le_of_lt hk); omega
  have HN := Lib.hid hbn
  have hrn : wszN p ≤ recN p := by unfold recN; omega
  have HW : Hid (wszN p ≤ (bytesB p).length - (headN p + k * recN p)) := Lib.hid (by omega)
  have HC : Hid ((bytesB p).length - (headN p + k * recN p) ≤ c - (headN p + k * recN p)) := Lib.hid (by have := h.hc; omega)
  have HH := Lib.hid h
  clear h hfr hrn hbn
  generalize headN p + k * recN p = off at *
  generalize (bytesB p).length - off = n at *
  generalize c - off = m at *
  go_enter Tryz.func66, Tryz.ntmps66
  go_wp2_with fail
  refine wp_region_det (fun wi => Below w.heap.size w wi) (by kernel_rfl) (by kernel_rfl) (Below.refl _ _).drew ?_
  iterate 10 (first
    | (refine wpDet_skip (by rfl) ?_; simp only [Act.put, List.setIfInBounds_toArray, List.set_cons_succ, List.set_cons_zero])
    | (apply wpDet_step
       · rfl
       · (intro wi hi2 K hK; have hc := (bcell hi2).1; go_wp2_with fail
          all_goals first
          | exact hK _ hi2
          | exact hi2
          | (go_at_call 96; (with_reducible refine Calls.mono (uintptr_any lt db p off n m (bndN p k) _ (HH.out.keep hi2).c6 (HH.out.keep hi2).c8 (hm.out.keep HH.out.db hi2) HN.out HW.out HC.out) ?_); rintro e w5 ⟨rfl, hb5⟩; go_wp2_with fail; all_goals first | exact hK _ (below_next2 hi2 hb5) | exact below_next2 hi2 hb5))
       · kernel_rfl))
  refine wpDet_nil (fun wi hi2 => ?_)
  go_wp2_with fail
  go_ret
  exact ⟨rfl, hi2⟩

theorem catchLine_idle (a : Addr) (w : World) :
    CallsD Tryz.prog 73 #[.pointer (some a)] .returning w fun e u' w' => e = .returned (.tuple #[]) ∧ u' = .returning ∧ w' = w := by
  refine callsD_of_wpS Tryz.func73 rfl fun c₀ cs hu => ?_
  apply wpS_seq
  apply wpS_region
  simp [wpOpsS, go_sem, recoverD, hu, Tryz.ntmps73, Exit.thenS]
  refine wpS_cond (t := false) (by simp [Act.eval, Array.replicate]) ?_
  simp only [Bool.false_eq_true, if_false]
  refine wpS_of_wp (wp_skip ?_)
  cases c₀
  simp_all [bodyPostS, results, Tryz.results73]

/-- the number of the function of a place, and its line -/
def PlaceIs (p : Pg) (pc k : Nat) : Prop := bndN p k ≤ pc ∧ pc < bndN p (k + 1)
set_option maxRecDepth 100000 in
set_option maxHeartbeats 2000000 in
theorem go12PCToLine_any (lt db c pc : Nat) (p : Pg) (w : World) (h : LtOk w lt db c p) (hpc : pc < 18446744073709551616) :
    Calls Tryz.prog 47 #[.pointer (some ⟨lt, 0, none⟩), .int .u64 pc] w fun e w' => Below w.heap.size w w' ∧
      (((pc < bndN p 0 ∨ bndN p p.funcs.length ≤ pc) ∧ e = .returned (.int .i64 (-1))) ∨
        ∃ k, ∃ hk : k < p.funcs.length, bndN p k ≤ pc ∧ pc < bndN p (k + 1) ∧ e = .returned (.int .i64 (valN p.quantum.toNat p.funcs[k].lines (pc - bndN p k)))) := by
  have hmf : ∀ (fn : Go.Fn) (first cap : Array Value) (w : World), (Instr.makeFunc fn first cap).run Tryz.prog w = .ok (.func fn first cap) w := fun _ _ _ _ => rfl
  have HH := Lib.hid h
  have hlt := h.lt
  clear h
  go_enter_defers Tryz.func47, Tryz.ntmps47
  go_wp2_with fail
  generalize hW : w.alloc _ = W
  have hWb : Below w.heap.size w W := by rw [← hW]; exact (Below.refl _ _).alloc (Nat.le_refl _) _
  have gL : W.heap[w.heap.size]? = some (.cells #[.int .i64 0] 3 (0, 0)) := by rw [← hW]; exact heap_alloc_new _ _
  have hsW : w.heap.size < W.heap.size := by rw [← hW]; simp
  have HW := Lib.hid (HH.out.keep hWb)
  have HGL := Lib.hid gL
  clear hW gL
  refine Calls.mono (findFunc_any lt db c pc p W HW.out hpc) ?_
  rintro e w1 ⟨hb1, hcase⟩
  have e0 := (hb1.block _ hsW).trans HGL.out
  have HB1 := Lib.hid hb1
  have hs1 : w.heap.size < w1.heap.size := Nat.lt_of_lt_of_le hsW hb1.size
  have HE0 := Lib.hid e0
  clear hb1 e0
  rcases hcase with ⟨hout, rfl⟩ | ⟨k, hk, hk1, hk2, rfl⟩
  · have HO := Lib.hid hout
    clear hout
    go_wp2_with fail
    generalize hV : w1.alloc _ = V
    have hVb : Below W.heap.size W V := by rw [← hV]; exact below_next2 HB1.out ((Below.refl _ _).alloc (Nat.le_refl _) _)
    have eV : V.heap[w.heap.size]? = some (.cells #[.int .i64 0] 3 (0, 0)) := by rw [← hV, heap_alloc_old _ _ hs1]; exact HE0.out
    have HVB := Lib.hid hVb
    have HEV := Lib.hid eV
    have hsV : w.heap.size < V.heap.size := Nat.lt_of_lt_of_le hsW hVb.size
    clear hV hVb eV
    refine Calls.mono (isZero_yes V) ?_
    rintro e w2 ⟨rfl, hb2⟩
    have HB2 := Lib.hid hb2
    have c2 := (hb2.cell (p := ⟨w.heap.size, 0, none⟩) hsV).trans (cell_of_one HEV.out)
    have f2 := (hb2.frozen (p := ⟨w.heap.size, 0, none⟩) hsV).trans (free_of_one HEV.out)
    clear hb2
    go_wp2_with fail
    have HF := Lib.hid ((below_next2 (below_next2 hWb HVB.out) HB2.out).setCell (p := ⟨w.heap.size, 0, none⟩) (Nat.le_refl _) (.int .i64 (-1)))
    refine leaves_cons (f := 73) (args := #[.pointer (some ⟨w.heap.size, 0, none⟩)]) (by simp) (by simp [go_sem]) ?_
    refine (catchLine_idle _ _).mono ?_
    rintro e u' w'' ⟨rfl, rfl, rfl⟩
    simp [Leaves, settle, results, Tryz.results47, go_sem, c2]
    exact ⟨HF.out, .inl HO.out⟩
  · have HK := Lib.hid (And.intro hk1 hk2)
    obtain ⟨N, hN⟩ : ∃ N, offN p k + (strZ p.funcs[k].name).length + (pairsB p.funcs[k].files).length = N := ⟨_, rfl⟩
    have hat := bytes_pcln p k hk
    rw [hN] at hat
    have HAT := Lib.hid hat
    have HN := Lib.hid hN
    have HPB : Hid (pc ≤ 4294967296) := Lib.hid (by have := HH.out.well.bnd_le (k + 1) hk; omega)
    have HQ : Hid (1 ≤ p.quantum.toNat ∧ p.quantum.toNat ≤ 4 ∧ ∀ {W : World}, LtOk W lt db c p → W.cell? ⟨lt, 7, none⟩ = some (.int .u32 (p.quantum.toNat : Nat))) := Lib.hid (by
      have hq := HH.out.well.head.quantum
      refine ⟨by omega, by omega, fun h => ?_⟩
      have := h.c7
      rwa [show ((p.quantum.toNat : Nat) : Int) = p.quantum by omega])
    clear hk1 hk2 hN hat
    go_wp2_with fail
    generalize hV : w1.alloc _ = V
    have hVb : Below W.heap.size W V := by rw [← hV]; exact below_next2 HB1.out ((Below.refl _ _).alloc (Nat.le_refl _) _)
    have eV : V.heap[w.heap.size]? = some (.cells #[.int .i64 0] 3 (0, 0)) := by rw [← hV, heap_alloc_old _ _ hs1]; exact HE0.out
    have vB0 : V.cell? ⟨w1.heap.size, 0, none⟩ = some (.pointer (some ⟨lt, 0, none⟩)) := by rw [← hV]; simp
    have vB1 : V.cell? ⟨w1.heap.size, 1, none⟩ = some (.slice (some ⟨db, headN p + k * recN p, none⟩) ((bytesB p).length - (headN p + k * recN p)) (c - (headN p + k * recN p))) := by rw [← hV]; simp
    have hs1V : w1.heap.size < V.heap.size := by rw [← hV]; simp
    have HVB := Lib.hid hVb
    have HEV := Lib.hid eV
    have hsV : w.heap.size < V.heap.size := Nat.lt_of_lt_of_le hsW hVb.size
    have HV := Lib.hid (HW.out.keep hVb)
    clear hV hVb eV
    refine Calls.mono (isZero_no lt db c k p V) ?_
    rintro e w2 ⟨rfl, hb2⟩
    have HB2 := Lib.hid hb2
    have b20 := (hb2.cell (p := ⟨w1.heap.size, 0, none⟩) hs1V).trans vB0
    have b21 := (hb2.cell (p := ⟨w1.heap.size, 1, none⟩) hs1V).trans vB1
    have hs2 := Nat.lt_of_lt_of_le hs1V hb2.size
    have H2 := Lib.hid (HV.out.keep hb2)
    clear hb2 vB0 vB1
    go_wp2_with fail
    refine Calls.mono (entryPC_any lt db c k w1.heap.size p w2 H2.out hk b20 b21) ?_
    rintro e w3 ⟨rfl, hb3⟩
    have HB3 := Lib.hid (below_next2 HB2.out hb3)
    have b30 := (hb3.cell (p := ⟨w1.heap.size, 0, none⟩) hs2).trans b20
    have b31 := (hb3.cell (p := ⟨w1.heap.size, 1, none⟩) hs2).trans b21
    have H3 := Lib.hid (H2.out.keep hb3)
    clear hb3 b20 b21
    go_wp2_with fail
    have hpl := pcln_any lt db c k p w3 H3.out hk
    rw [HN.out] at hpl
    refine hpl.mono ?_
    clear hpl
    rintro e w4 ⟨rfl, hb4⟩
    have HB4 := Lib.hid (below_next2 HB3.out hb4)
    have H4 := Lib.hid (H3.out.keep hb4)
    clear hb4 b30 b31
    go_wp2_with fail
    refine Calls.mono (pcvalue_any lt db (bytesB p).length c N p.quantum.toNat (bndN p k) pc p.funcs[k].lines w4 H4.out.c16 (HQ.out.2.2 H4.out) (H4.out.mem.at HAT.out) HAT.out.le H4.out.hc H4.out.cm
      ((HH.out.well.funcs k hk).lines.from (by omega)) (HH.out.well.funcs k hk).lines.pos HQ.out.1 HQ.out.2.1 HK.out.1 HPB.out) ?_
    rintro e w5 ⟨rfl, hb5⟩
    have HB5 := Lib.hid (below_next2 HB4.out hb5)
    have c5 := (HB5.out.cell (p := ⟨w.heap.size, 0, none⟩) hsV).trans (cell_of_one HEV.out)
    have f5 := (HB5.out.frozen (p := ⟨w.heap.size, 0, none⟩) hsV).trans (free_of_one HEV.out)
    have hval := (HH.out.well.funcs k hk).lines.val p.quantum.toNat (pc - bndN p k)
    have HX : Hid (Ending.returned (Value.int .i64 (valN p.quantum.toNat p.funcs[k].lines (pc - bndN p k))) = .returned (.int .i64 (valN p.quantum.toNat p.funcs[k].lines (pc - bndN p k)))) := Lib.hid rfl
    clear hb5
    generalize hz : valN p.quantum.toNat p.funcs[k].lines (pc - bndN p k) = z at *
    have HZ := Lib.hid hz
    clear hz
    go_wp2_with fail
    have HF := Lib.hid ((below_next2 (below_next2 hWb HVB.out) HB5.out).setCell (p := ⟨w.heap.size, 0, none⟩) (Nat.le_refl _) (.int .i64 z))
    refine leaves_cons (f := 73) (args := #[.pointer (some ⟨w.heap.size, 0, none⟩)]) (by simp) (by simp [go_sem]) ?_
    refine (catchLine_idle _ _).mono ?_
    rintro e u' w'' ⟨rfl, rfl, rfl⟩
    simp [Leaves, settle, results, Tryz.results47, go_sem, c5]
    exact ⟨HF.out, .inr ⟨k, HK.out.1, HK.out.2, hk, HZ.out.symm⟩⟩
end Go.Proofs.YtoedlabfiialfaaGreat
