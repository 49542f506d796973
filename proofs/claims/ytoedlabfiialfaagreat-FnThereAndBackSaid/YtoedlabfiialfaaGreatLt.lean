/-
  The line table in memory once it is read; the small readers.
-/
import Derived.Test.YtoedlabfiialfaaGreatPcv
import Derived.Test.YtoedlabfiialfaaGreatDet
import Derived.Handy
namespace Go.Proofs.YtoedlabfiialfaaGreat
open Go.RowKit

/-- what the readers need of the line table at block lt: its bytes at block db -/
structure LtOk (w : World) (lt db c : Nat) (p : Pg) : Prop where
  well : WellP p
  mem : Mem w db 0 (bytesB p)
  hc : (bytesB p).length ≤ c
  cm : c ≤ maxLen
  c0 : w.cell? ⟨lt, 0, none⟩ = some (.slice (some ⟨db, 0, none⟩) (bytesB p).length c)
  c5 : w.cell? ⟨lt, 5, none⟩ = some (.int .i64 2)
  c6 : w.cell? ⟨lt, 6, none⟩ = some (.bool p.big)
  c7 : w.cell? ⟨lt, 7, none⟩ = some (.int .u32 p.quantum)
  c8 : w.cell? ⟨lt, 8, none⟩ = some (.int .u32 (wszN p))
  c10 : w.cell? ⟨lt, 10, none⟩ = some (.slice (some ⟨db, 0, none⟩) (bytesB p).length c)
  c12 : w.cell? ⟨lt, 12, none⟩ = some (.slice (some ⟨db, 0, none⟩) (bytesB p).length c)
  c13 : w.cell? ⟨lt, 13, none⟩ = some (.slice (some ⟨db, 8 + wszN p, none⟩) ((2 * p.funcs.length + 1) * wszN p) (c - (8 + wszN p)))
  c14 : w.cell? ⟨lt, 14, none⟩ = some (.int .u32 p.funcs.length)
  c15 : w.cell? ⟨lt, 15, none⟩ = some (.slice (some ⟨db, filesOff p, none⟩) ((p.files.length + 1) * 4) (c - filesOff p))
  c16 : w.cell? ⟨lt, 16, none⟩ = some (.slice (some ⟨db, 0, none⟩) (bytesB p).length c)
  c17 : w.cell? ⟨lt, 17, none⟩ = some (.int .u32 ((p.files.length + 1 : Nat) : Int))
theorem LtOk.lt {w : World} {lt db c : Nat} {p : Pg} (h : LtOk w lt db c p) : lt < w.heap.size := World.block_lt_of_cell? w ⟨lt, 5, none⟩ h.c5
theorem LtOk.db {w : World} {lt db c : Nat} {p : Pg} (h : LtOk w lt db c p) : db < w.heap.size :=
  World.block_lt_of_cell? w _ (h.mem 0 (by have := h.well.len_le; omega))
theorem LtOk.fr {S : Nat → Prop} {w w' : World} {lt db c : Nat} {p : Pg} (h : LtOk w lt db c p) (f : Fr S w w') (h1 : ¬ S lt) (h2 : ¬ S db) : LtOk w' lt db c p :=
  ⟨h.well, h.mem.fr f h2, h.hc, h.cm, f.cell h.c0 h1, f.cell h.c5 h1, f.cell h.c6 h1, f.cell h.c7 h1, f.cell h.c8 h1, f.cell h.c10 h1, f.cell h.c12 h1, f.cell h.c13 h1, f.cell h.c14 h1, f.cell h.c15 h1, f.cell h.c16 h1, f.cell h.c17 h1⟩
theorem LtOk.keep {w w' : World} {lt db c : Nat} {p : Pg} (h : LtOk w lt db c p) (f : Below w.heap.size w w') : LtOk w' lt db c p :=
  h.fr (Fr.of_below (S := fun _ => False) f) (fun e => e) (fun e => e)
theorem numV_word {p : Pg} {N : Nat} (hN : N < 4294967296) : numV p.big (wordB p N) = N := by
  unfold wordB
  rw [numV_numB]
  refine Nat.mod_eq_of_lt (Nat.lt_of_lt_of_le hN ?_)
  rcases wszN_or p with ⟨_, e⟩ | ⟨_, e⟩ <;> rw [e] <;> decide
theorem numV_4 {big : Bool} {N : Nat} (hN : N < 4294967296) : numV big (numB big N 4) = N := by
  rw [numV_numB]
  exact Nat.mod_eq_of_lt hN

set_option maxRecDepth 100000 in
set_option maxHeartbeats 1000000 in
theorem uint_any (lt db c : Nat) (p : Pg) (o n c' N : Nat) (w : World) (h : LtOk w lt db c p) (hm : Mem w db o (wordB p N)) (hN : N < 4294967296) (hn : wszN p ≤ n) (hc : n ≤ c') :
    Calls Tryz.prog 108 #[.agg #[.pointer (some ⟨lt, 0, none⟩), .int .i64 (wszN p)], .slice (some ⟨db, o, none⟩) n c'] w fun e w' => e = .returned (.int .u64 N) ∧ Below w.heap.size w w' := by
  have HV := Lib.hid (numV_word (p := p) hN)
  have HL := Lib.hid (wordB_length p N)
  have HM := Lib.hid hm
  have hlt := h.lt
  have hdb := h.db
  have c6 := h.c6
  clear hm h
  have HA := Lib.hid (fun o => (Below.refl w.heap.size w).alloc (Nat.le_refl _) o)
  rcases wszN_or p with ⟨_, e⟩ | ⟨_, e⟩
  · rw [e] at hn HL ⊢
    go_enter Tryz.func108, Tryz.ntmps108
    go_wp2_with fail
    refine (uint64_any p.big db o n c' (wordB p N) _ HL.out (HM.out.keep hdb (HA.out _)) hn hc).mono ?_
    rintro e w1 ⟨rfl, hb⟩
    rw [HV.out]
    have HB := Lib.hid (below_next2 (HA.out _) hb)
    clear hb
    go_wp2_with fail
    go_ret
    exact ⟨rfl, HB.out⟩
  · rw [e] at hn HL ⊢
    go_enter Tryz.func108, Tryz.ntmps108
    go_wp2_with fail
    refine (uint32_any p.big db o n c' (wordB p N) _ HL.out (HM.out.keep hdb (HA.out _)) hn hc).mono ?_
    rintro e w1 ⟨rfl, hb⟩
    rw [HV.out]
    have HB := Lib.hid (below_next2 (HA.out _) hb)
    clear hb
    go_wp2_with fail
    go_ret
    exact ⟨rfl, HB.out⟩
set_option maxRecDepth 100000 in
set_option maxHeartbeats 1000000 in
theorem uintptr_any (lt db : Nat) (p : Pg) (o n c' N : Nat) (w : World) (c6 : w.cell? ⟨lt, 6, none⟩ = some (.bool p.big)) (c8 : w.cell? ⟨lt, 8, none⟩ = some (.int .u32 (wszN p))) (hm : Mem w db o (wordB p N)) (hN : N < 4294967296) (hn : wszN p ≤ n) (hc : n ≤ c') :
    Calls Tryz.prog 96 #[.pointer (some ⟨lt, 0, none⟩), .slice (some ⟨db, o, none⟩) n c'] w fun e w' => e = .returned (.int .u64 N) ∧ Below w.heap.size w w' := by
  have hlt : lt < w.heap.size := World.block_lt_of_cell? w ⟨lt, 8, none⟩ c8
  have HV := Lib.hid (numV_word (p := p) hN)
  have HL := Lib.hid (wordB_length p N)
  have HM := Lib.hid hm
  clear hm
  rcases wszN_or p with ⟨_, e⟩ | ⟨_, e⟩
  · rw [e] at hn HL c8
    go_enter Tryz.func96, Tryz.ntmps96
    go_wp2_with fail
    refine (uint64_any p.big db o n c' (wordB p N) _ HL.out HM.out hn hc).mono ?_
    rintro e w1 ⟨rfl, hb⟩
    rw [HV.out]
    have HB := Lib.hid hb
    clear hb
    go_wp2_with fail
    go_ret
    exact ⟨rfl, HB.out⟩
  · rw [e] at hn HL c8
    go_enter Tryz.func96, Tryz.ntmps96
    go_wp2_with fail
    refine (uint32_any p.big db o n c' (wordB p N) _ HL.out HM.out hn hc).mono ?_
    rintro e w1 ⟨rfl, hb⟩
    rw [HV.out]
    have HB := Lib.hid hb
    clear hb
    go_wp2_with fail
    go_ret
    exact ⟨rfl, HB.out⟩
set_option maxRecDepth 100000 in
set_option maxHeartbeats 1000000 in
theorem fieldSize_any (lt : Nat) (p : Pg) (w : World) (c5 : w.cell? ⟨lt, 5, none⟩ = some (.int .i64 2)) (c8 : w.cell? ⟨lt, 8, none⟩ = some (.int .u32 (wszN p))) :
    Calls Tryz.prog 107 #[.pointer (some ⟨lt, 0, none⟩)] w fun e w' => e = .returned (.int .i64 (wszN p)) ∧ w' = w := by
  have hlt : lt < w.heap.size := World.block_lt_of_cell? w ⟨lt, 5, none⟩ c5
  rcases wszN_or p with ⟨_, e⟩ | ⟨_, e⟩ <;> rw [e] at c8 ⊢
  · go_enter Tryz.func107, Tryz.ntmps107
    go_wp2_with fail
    go_ret
    exact ⟨rfl, rfl⟩
  · go_enter Tryz.func107, Tryz.ntmps107
    go_wp2_with fail
    go_ret
    exact ⟨rfl, rfl⟩
abbrev ftv (lt : Nat) (p : Pg) : Value := .agg #[.pointer (some ⟨lt, 0, none⟩), .int .i64 (wszN p)]
set_option maxRecDepth 100000 in
set_option maxHeartbeats 1000000 in
theorem funcTab_any (lt : Nat) (p : Pg) (w : World) (c5 : w.cell? ⟨lt, 5, none⟩ = some (.int .i64 2)) (c8 : w.cell? ⟨lt, 8, none⟩ = some (.int .u32 (wszN p))) :
    Calls Tryz.prog 88 #[.pointer (some ⟨lt, 0, none⟩)] w fun e w' => e = .returned (ftv lt p) ∧ Below w.heap.size w w' := by
  have hlt : lt < w.heap.size := World.block_lt_of_cell? w ⟨lt, 5, none⟩ c5
  have HA := Lib.hid (fun o => (Below.refl w.heap.size w).alloc (Nat.le_refl _) o)
  go_enter Tryz.func88, Tryz.ntmps88
  go_wp2_with fail
  refine (fieldSize_any lt p _ (((HA.out _).cell (p := ⟨lt, 5, none⟩) hlt).trans c5) (((HA.out _).cell (p := ⟨lt, 8, none⟩) hlt).trans c8)).mono ?_
  rintro e w1 ⟨rfl, rfl⟩
  go_wp2_with fail
  go_returns
  exact ⟨rfl, HA.out _⟩
set_option maxRecDepth 100000 in
set_option maxHeartbeats 1000000 in
theorem count_any (lt db c : Nat) (p : Pg) (w : World) (h : LtOk w lt db c p) :
    Calls Tryz.prog 89 #[ftv lt p] w fun e w' => e = .returned (.int .i64 p.funcs.length) ∧ Below w.heap.size w w' := by
  have hlt := h.lt
  have c14 := h.c14
  have hfl := h.well.head.fl
  have HA := Lib.hid (fun o => (Below.refl w.heap.size w).alloc (Nat.le_refl _) o)
  clear h
  go_enter Tryz.func89, Tryz.ntmps89
  go_wp2_with fail
  go_ret
  exact ⟨rfl, HA.out _⟩
set_option maxRecDepth 100000 in
set_option maxHeartbeats 1000000 in
theorem pc_any (lt db c k : Nat) (p : Pg) (w : World) (h : LtOk w lt db c p) (hk : k ≤ p.funcs.length) :
    Calls Tryz.prog 90 #[ftv lt p, .int .i64 k] w fun e w' => e = .returned (.int .u64 (bndN p k)) ∧ Below w.heap.size w w' := by
  have hlt := h.lt
  have hdb := h.db
  have c5 := h.c5
  have c13 := h.c13
  have hfl := h.well.head.fl
  have hl5 := h.well.len_le
  have hc := h.hc
  have hcm := h.cm
  have hcm' := hcm
  unfold maxLen at hcm'
  have HA := Lib.hid (fun o => (Below.refl w.heap.size w).alloc (Nat.le_refl _) o)
  have HU : ∀ W', LtOk W' lt db c p → ∀ o n c', o = 8 + wszN p + 2 * k * wszN p → wszN p ≤ n → n ≤ c' → Calls Tryz.prog 108 #[ftv lt p, .slice (some ⟨db, o, none⟩) n c'] W' fun e w' => e = .returned (.int .u64 (bndN p k)) ∧ Below W'.heap.size W' w' :=
    fun W' h' o n c' ho hn hc => uint_any lt db c p o n c' _ W' h' (ho ▸ h'.mem.at (bytes_frm p k hk)) (by have := (h.well.bnd_le k hk).2; omega) hn hc
  have hle := (bytes_frm p k hk).le
  rw [wordB_length] at hle
  have hl2 := (bytes_tab p).le
  rw [tabB_length] at hl2
  have HH := Lib.hid h
  clear h
  have HG : ∀ W', w.alloc (.cells #[.pointer (some ⟨lt, 0, none⟩), .int .i64 (wszN p)] 166) = W' → W'.cell? ⟨w.heap.size, 1, none⟩ = some (.int .i64 (wszN p)) := fun W' e => by rw [← e]; simp
  unfold ftv at *
  rcases wszN_or p with ⟨_, e⟩ | ⟨_, e⟩ <;>
   (rw [e] at c13 hle hl2 HU HG ⊢
    have HUU := Lib.hid HU
    have HGG := Lib.hid HG
    clear HU HG e
    go_enter Tryz.func90, Tryz.ntmps90
    go_wp2_with fail
    generalize hW : w.alloc _ = W
    have hWb : Below w.heap.size w W := by rw [← hW]; exact HA.out _
    have g0 : W.cell? ⟨w.heap.size, 0, none⟩ = some (.pointer (some ⟨lt, 0, none⟩)) := by rw [← hW]; simp
    have g1 := HGG.out _ hW
    have hs : w.heap.size < W.heap.size := by rw [← hW]; simp
    have hltW : lt < W.heap.size := Nat.lt_of_lt_of_le hlt hWb.size
    have d5 := (hWb.cell (p := ⟨lt, 5, none⟩) hlt).trans c5
    have d13 := (hWb.cell (p := ⟨lt, 13, none⟩) hlt).trans c13
    have HW := Lib.hid (HH.out.keep hWb)
    clear hW
    refine wp_region_det (fun wi => Below W.heap.size W wi) (by kernel_rfl) (by kernel_rfl) (Below.refl _ _).drew ?_
    iterate 14 (first
      | (refine wpDet_skip (by rfl) ?_; simp only [Act.put, List.setIfInBounds_toArray, List.set_cons_succ, List.set_cons_zero])
      | (apply wpDet_step
         · rfl
         · (intro wi hi K hK; have hc := (bcell hi).1; go_wp2_with fail
            all_goals first
            | exact hK _ hi
            | exact hi
            | (go_at_call 108; (with_reducible refine Calls.mono (HUU.out _ (HW.out.keep hi) _ _ _ (by omega) (by omega) (by omega)) ?_); rintro e w5 ⟨rfl, hb5⟩; go_wp2_with fail; all_goals first | exact hK _ (below_next2 hi hb5) | exact below_next2 hi hb5))
         · kernel_rfl))
    refine wpDet_nil (fun wi hi => ?_)
    have e5 := (hi.cell (p := ⟨lt, 5, none⟩) hltW).trans d5
    have e0 := (hi.cell (p := ⟨w.heap.size, 0, none⟩) hs).trans g0
    go_wp2_with fail
    go_ret
    exact ⟨rfl, below_next2 hWb hi⟩)
set_option maxRecDepth 100000 in
set_option maxHeartbeats 1000000 in
theorem funcOff_any (lt db c k : Nat) (p : Pg) (w : World) (h : LtOk w lt db c p) (hk : k < p.funcs.length) :
    Calls Tryz.prog 102 #[ftv lt p, .int .i64 k] w fun e w' => e = .returned (.int .u64 ((headN p + k * recN p : Nat) : Int)) ∧ Below w.heap.size w w' := by
  have hlt := h.lt
  have hdb := h.db
  have c5 := h.c5
  have c13 := h.c13
  have hfl := h.well.head.fl
  have hl5 := h.well.len_le
  have hc := h.hc
  have hcm := h.cm
  have hcm' := hcm
  unfold maxLen at hcm'
  have HA := Lib.hid (fun o => (Below.refl w.heap.size w).alloc (Nat.le_refl _) o)
  have hrl : headN p + k * recN p < 4294967296 := by
    have := (bytes_rec p k hk).le
    omega
  have HU : ∀ W', LtOk W' lt db c p → ∀ o n c', o = 8 + wszN p + (2 * k + 1) * wszN p → wszN p ≤ n → n ≤ c' → Calls Tryz.prog 108 #[ftv lt p, .slice (some ⟨db, o, none⟩) n c'] W' fun e w' => e = .returned (.int .u64 ((headN p + k * recN p : Nat) : Int)) ∧ Below W'.heap.size W' w' :=
    fun W' h' o n c' ho hn hc => uint_any lt db c p o n c' _ W' h' (ho ▸ h'.mem.at (bytes_ro p k hk)) hrl hn hc
  have hle := (bytes_ro p k hk).le
  rw [wordB_length] at hle
  have hl2 := (bytes_tab p).le
  rw [tabB_length] at hl2
  have HH := Lib.hid h
  clear h
  have HG : ∀ W', w.alloc (.cells #[.pointer (some ⟨lt, 0, none⟩), .int .i64 (wszN p)] 166) = W' → W'.cell? ⟨w.heap.size, 1, none⟩ = some (.int .i64 (wszN p)) := fun W' e => by rw [← e]; simp
  unfold ftv at *
  rcases wszN_or p with ⟨_, e⟩ | ⟨_, e⟩ <;>
   (rw [e] at c13 hle hl2 HU HG ⊢
    have HUU := Lib.hid HU
    have HGG := Lib.hid HG
    clear HU HG e
    go_enter Tryz.func102, Tryz.ntmps102
    go_wp2_with fail
    generalize hW : w.alloc _ = W
    have hWb : Below w.heap.size w W := by rw [← hW]; exact HA.out _
    have g0 : W.cell? ⟨w.heap.size, 0, none⟩ = some (.pointer (some ⟨lt, 0, none⟩)) := by rw [← hW]; simp
    have g1 := HGG.out _ hW
    have hs : w.heap.size < W.heap.size := by rw [← hW]; simp
    have hltW : lt < W.heap.size := Nat.lt_of_lt_of_le hlt hWb.size
    have d5 := (hWb.cell (p := ⟨lt, 5, none⟩) hlt).trans c5
    have d13 := (hWb.cell (p := ⟨lt, 13, none⟩) hlt).trans c13
    have HW := Lib.hid (HH.out.keep hWb)
    clear hW
    refine wp_region_det (fun wi => Below W.heap.size W wi) (by kernel_rfl) (by kernel_rfl) (Below.refl _ _).drew ?_
    iterate 15 (first
      | (refine wpDet_skip (by rfl) ?_; simp only [Act.put, List.setIfInBounds_toArray, List.set_cons_succ, List.set_cons_zero])
      | (apply wpDet_step
         · rfl
         · (intro wi hi K hK; have hc := (bcell hi).1; go_wp2_with fail
            all_goals first
            | exact hK _ hi
            | exact hi
            | (go_at_call 108; (with_reducible refine Calls.mono (HUU.out _ (HW.out.keep hi) _ _ _ (by omega) (by omega) (by omega)) ?_); rintro e w5 ⟨rfl, hb5⟩; go_wp2_with fail; all_goals first | exact hK _ (below_next2 hi hb5) | exact below_next2 hi hb5))
         · kernel_rfl))
    refine wpDet_nil (fun wi hi => ?_)
    have e5 := (hi.cell (p := ⟨lt, 5, none⟩) hltW).trans d5
    have e0 := (hi.cell (p := ⟨w.heap.size, 0, none⟩) hs).trans g0
    go_wp2_with fail
    go_ret
    exact ⟨rfl, below_next2 hWb hi⟩)
end Go.Proofs.YtoedlabfiialfaaGreat
