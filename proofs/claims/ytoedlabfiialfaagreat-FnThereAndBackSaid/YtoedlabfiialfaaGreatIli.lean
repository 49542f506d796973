/-
  The walks through Table.PCToLine and the thin package's Line.
-/
import Derived.Test.YtoedlabfiialfaaGreatGpf
import Derived.Test.YtoedlabfiialfaaGreatUni
namespace Go.Proofs.YtoedlabfiialfaaGreat
open Go.RowKit

/-- what is told of a place: the file, the line, the function -/
def PclIs (p : Pg) (pc fb : Nat) (e : Ending) : Prop :=
  ((pc < bndN p 0 ∨ bndN p p.funcs.length ≤ pc) ∧ e = .returned (.tuple #[.string ⟨#[]⟩, .int .i64 0, .pointer none])) ∨
    ∃ k, ∃ hk : k < p.funcs.length, bndN p k ≤ pc ∧ pc < bndN p (k + 1) ∧ e = .returned (.tuple #[.string (fileN p k (pc - bndN p k)), .int .i64 (valN p.quantum.toNat p.funcs[k].lines (pc - bndN p k)), .pointer (some ⟨fb, k * 8, none⟩)])
theorem FileIs.at {p : Pg} {pc i : Nat} {e : Ending} (H : WellP p) (h : FileIs p pc e) (hi : i < p.funcs.length) (h1 : bndN p i ≤ pc) (h2 : pc < bndN p (i + 1)) : e = .returned (.string (fileN p i (pc - bndN p i))) := by
  rcases h with ⟨ho, _⟩ | ⟨k, hk, k1, k2, he⟩
  · exfalso
    rcases ho with h | h
    · rcases Nat.eq_zero_or_pos i with rfl | h0
      · omega
      · have := H.bnd_mono 0 i h0 (Nat.le_of_lt hi); omega
    · rcases Nat.lt_or_eq_of_le (show i + 1 ≤ p.funcs.length from hi) with h' | h'
      · have := H.bnd_mono _ _ h' (Nat.le_refl _); omega
      · rw [h'] at h2; omega
  · obtain rfl := bnd_unique H hi hk h1 h2 k1 k2
    exact he

set_option maxRecDepth 100000 in
set_option maxHeartbeats 2000000 in
theorem tbPCToLine_any (base tb lt db c b1 b2 b3 bf fb sb pc : Nat) (p : Pg) (w : World) (h : TbOk w base tb lt db c b1 b2 b3 bf fb sb p) (hpc : pc < 18446744073709551616) :
    Calls Tryz.prog 29 #[.pointer (some ⟨tb, 0, none⟩), .int .u64 pc] w fun e w' => PclIs p pc fb e ∧ TbOk w' base tb lt db c b1 b2 b3 bf fb sb p ∧ Fr (fun j => j = b2) w w' := by
  have HT := Lib.hid h
  have HW := Lib.hid h.t.well
  have HP := Lib.hid (pcToFunc_any tb lt fb sb bf pc p w h.t.well h.cells h.rows)
  have t4 := h.cells.c4
  have tl := h.cells.l
  clear h
  go_enter Tryz.func29, Tryz.ntmps29
  go_wp2_with fail
  refine Calls.mono HP.out ?_
  rintro e w2 ⟨hw2, hcase⟩
  have hw2' := hw2.symm
  subst hw2'
  rcases hcase with ⟨hout, rfl⟩ | ⟨k, hk, hk1, hk2, rfl⟩
  · have HI : Hid (PclIs p pc fb (.returned (.tuple #[.string ⟨#[]⟩, .int .i64 0, .pointer none]))) := Lib.hid (.inl ⟨hout, rfl⟩)
    clear hout HP
    go_wp2_with fail
    go_ret3
    exact ⟨HI.out, HT.out, Fr.refl _ _⟩
  · have HK := Lib.hid (And.intro hk1 hk2)
    have hnq : ∀ (o : Addr) (W : World), (binOp .eql 65 (.pointer (some o)) (.pointer none)).run Tryz.prog W = .ok (.bool false) W := fun o W => by rfl
    clear hk1 hk2 HP
    go_wp2_with fail
    refine Calls.mono (go12PCToFile_any lt db c b1 b2 pc 0 (.map (some b3)) p w HT.out.t hpc) ?_
    rintro e w3 ⟨hf, hL, hfr⟩
    obtain rfl := hf.at HW.out hk HK.out.1 HK.out.2
    have hlo := HT.out.lo
    have HT3 := Lib.hid (HT.out.fr hL hfr (fun j e => by omega))
    have HF3 := Lib.hid hfr
    have t43 := HT3.out.cells.c4
    have tl3 := HT3.out.cells.l
    have HLI := Lib.hid (go12PCToLine_any lt db c pc p w3 HT3.out.t.ok hpc)
    have HI : Hid (PclIs p pc fb (.returned (.tuple #[.string (fileN p k (pc - bndN p k)), .int .i64 (valN p.quantum.toNat p.funcs[k].lines (pc - bndN p k)), .pointer (some ⟨fb, k * 8, none⟩)]))) := Lib.hid (.inr ⟨k, hk, HK.out.1, HK.out.2, rfl⟩)
    have HL4 := Lib.hid (fun e (hl : LineIs p pc e) => hl.at HW.out hk HK.out.1 HK.out.2)
    clear hL hfr hf hlo
    generalize fileN p k (pc - bndN p k) = s at *
    generalize valN p.quantum.toNat p.funcs[k].lines (pc - bndN p k) = z at *
    go_wp2_with fail
    refine Calls.mono HLI.out ?_
    rintro e w4 ⟨hb4, hl⟩
    obtain rfl := HL4.out e hl
    have HB4 := Lib.hid hb4
    clear hb4 hl HLI HL4
    go_wp2_with fail
    go_ret3
    exact ⟨HI.out, HT3.out.keep HB4.out, HF3.out.trans (Fr.of_below HB4.out)⟩

theorem results_tmp4 {fn : Func} {t u v x : Tmp} (h : fn.results = #[.tmp t, .tmp u, .tmp v, .tmp x]) (tmps : Array Value) (P : Program) (w : World) :
    (results fn tmps).run P w = .ok (.tuple #[tmps.getD t undef, tmps.getD u undef, tmps.getD v undef, tmps.getD x undef]) w := by
  simp [results, h]
/-- what the thin package tells of a place -/
def LnIs (p : Pg) (pc : Nat) (e : Ending) : Prop :=
  ((pc < bndN p 0 ∨ bndN p p.funcs.length ≤ pc) ∧ e = .returned (.tuple #[.string ⟨#[]⟩, .int .i64 0, .string ⟨#[]⟩, .bool false])) ∨
    ∃ k, ∃ hk : k < p.funcs.length, bndN p k ≤ pc ∧ pc < bndN p (k + 1) ∧ e = .returned (.tuple #[.string (fileN p k (pc - bndN p k)), .int .i64 (valN p.quantum.toNat p.funcs[k].lines (pc - bndN p k)), .string p.funcs[k].name, .bool true])
set_option maxRecDepth 100000 in
set_option maxHeartbeats 2000000 in
theorem implLine_any (g n cap pc : Nat) (p : Pg) (w : World) (HW : WellP p) (hm : Mem w g 0 (bytesB p)) (hn : n = (bytesB p).length) (hc : n ≤ cap) (hpc : pc < 18446744073709551616) :
    Calls Tryz.prog 10 #[.slice (some ⟨g, 0, none⟩) n cap, .int .u64 pc] w fun e w' => LnIs p pc e ∧ Below w.heap.size w w' := by
  have HC := Lib.hid (table_any g n cap p w HW hm hn hc)
  clear hm hn hc HW
  go_enter Tryz.func10, Tryz.ntmps10
  go_wp2_with fail
  refine Calls.mono HC.out ?_
  rintro e w1 ⟨tb, rfl, hT, hb1⟩
  obtain ⟨base, lt, db, c, b1, b2, b3, bf, fb, sb, hT, hlt0, hb10, hb20, hbase⟩ := hT
  have HB1 := Lib.hid hb1
  have HT := Lib.hid hT
  have HP := Lib.hid (tbPCToLine_any base tb lt db c b1 b2 b3 bf fb sb pc p w1 hT hpc)
  clear hT hb1 HC
  go_wp2_with fail
  refine Calls.mono HP.out ?_
  rintro e w2 ⟨hcase, hT2, hfr2⟩
  have HB2 : Hid (Below w.heap.size w w2) := Lib.hid (HB1.out.trans (hfr2.below HB1.out.size (fun k hk e => by omega)))
  have HR := Lib.hid hT2.rows
  clear hT2 hfr2 HP
  rcases hcase with ⟨hout, rfl⟩ | ⟨k, hk, hk1, hk2, rfl⟩
  · have HI : Hid (LnIs p pc (.returned (.tuple #[.string ⟨#[]⟩, .int .i64 0, .string ⟨#[]⟩, .bool false]))) := Lib.hid (.inl ⟨hout, rfl⟩)
    clear hout
    go_wp2_with fail
    refine Calls.mono (name_nil _) ?_
    rintro e w3 ⟨rfl, hw3⟩
    have hw3' := hw3.symm
    subst hw3'
    go_wp2_with fail
    refine bodyPost_ret (results_tmp4 rfl _ _ _) rfl ?_
    exact ⟨HI.out, HB2.out⟩
  · have HI : Hid (LnIs p pc (.returned (.tuple #[.string (fileN p k (pc - bndN p k)), .int .i64 (valN p.quantum.toNat p.funcs[k].lines (pc - bndN p k)), .string p.funcs[k].name, .bool true]))) := Lib.hid (.inr ⟨k, hk, hk1, hk2, rfl⟩)
    have HN := Lib.hid (name_any fb sb k p w2 HR.out hk)
    have hnq : ∀ (o : Addr) (W : World), (binOp .neq 65 (.pointer (some o)) (.pointer none)).run Tryz.prog W = .ok (.bool true) W := fun o W => by rfl
    clear hk1 hk2
    generalize fileN p k (pc - bndN p k) = s at *
    generalize valN p.quantum.toNat p.funcs[k].lines (pc - bndN p k) = z at *
    generalize p.funcs[k].name = nm at *
    go_wp2_with fail
    refine Calls.mono HN.out ?_
    rintro e w3 ⟨rfl, hw3⟩
    have hw3' := hw3.symm
    subst hw3'
    go_wp2_with fail
    refine bodyPost_ret (results_tmp4 rfl _ _ _) rfl ?_
    exact ⟨HI.out, HB2.out⟩
end Go.Proofs.YtoedlabfiialfaaGreat
