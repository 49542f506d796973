/-
  The walk through Single: whether each function has one file.
-/
import Derived.Test.YtoedlabfiialfaaGreatSp
namespace Go.Proofs.YtoedlabfiialfaaGreat
open Go.RowKit

def OneFile (p : Pg) : Prop := ∀ k (hk : k < p.funcs.length), p.funcs[k].files.length = 1
set_option maxRecDepth 100000 in
set_option maxHeartbeats 1000000 in
theorem single1_any (nm : ByteArray) (fr : Int) (LA QA : Option Addr) (ll lc n qc fe : Nat) (w : World) (_ : n ≤ maxLen) :
    Calls Tryz.prog 38 #[.agg #[.string nm, .int .i32 fr, .slice LA ll lc, .slice QA n qc, .int .u32 fe]] w fun e w' => e = .returned (.bool ((n : Int) != 1)) ∧ Below w.heap.size w w' := by
  have HA := Lib.hid (fun o => (Below.refl w.heap.size w).alloc (Nat.le_refl _) o)
  go_enter Tryz.func38, Tryz.ntmps38
  go_wp2_with fail
  go_ret
  exact ⟨rfl, HA.out _⟩
set_option maxRecDepth 100000 in
set_option maxHeartbeats 2000000 in
theorem indexSingle_any (FA SA : Option Addr) (fc sc : Nat) (p : Pg) (B : Nat) (w : World) (H : PgOk w B FA SA fc sc p) (hfl : p.funcs.length ≤ 100) :
    Calls Tryz.prog 51 #[.slice FA p.funcs.length fc, .func (.func 38) #[] #[]] w fun e w' => Below w.heap.size w w' ∧
      ((OneFile p ∧ e = .returned (.int .i64 (-1))) ∨ ∃ k : Nat, ¬ OneFile p ∧ e = .returned (.int .i64 k)) := by
  have HH := Lib.hid H
  clear H
  go_enter Tryz.func51, Tryz.ntmps51
  go_wp2_with fail
  go_loopw [8] (fun i wr => ∃ k : Nat, k ≤ p.funcs.length ∧ i = .int .i64 k ∧ Hid (∀ j (hj : j < p.funcs.length), j < k → p.funcs[j].files.length = 1) ∧ Below w.heap.size w wr) (fun i _ => p.funcs.length - (intOf i).toNat)
  case atStart => exact ⟨0, Nat.zero_le _, rfl, Lib.hid (fun j _ h => absurd h (Nat.not_lt_zero _)), Below.refl _ _⟩
  case round =>
    obtain ⟨k, hk, rfl, I, hb⟩ := hrel
    have HB := Lib.hid hb
    by_cases hlt : k < p.funcs.length
    · obtain ⟨b, off, rfl, hf⟩ := ((HH.out.fn).keep (hb.mono HH.out.bd)) k hlt
      have c0 := hf.name
      have c1 := hf.frame
      obtain ⟨LA, lc, c2, r2⟩ := hf.lines
      obtain ⟨QA, qc, c3, r3⟩ := hf.files
      have c4 := hf.free
      have hql := r3.len
      have HF : Hid (∃ f, p.funcs[k] = f) := Lib.hid ⟨_, rfl⟩
      clear r2 r3 hf hb
      obtain ⟨n, hn⟩ : ∃ n, p.funcs[k].files.length = n := ⟨_, rfl⟩
      rw [hn] at c3 hql
      have HN := Lib.hid hn
      clear hn HF
      generalize p.funcs[k].name = nm at *
      generalize p.funcs[k].frame = fr at *
      generalize p.funcs[k].lines.length = ll at *
      generalize p.funcs[k].free = fe at *
      go_wp2_with fail
      refine Calls.mono (single1_any _ _ _ _ _ _ _ _ _ _ hql) ?_
      rintro e w1 ⟨rfl, hb1⟩
      have HB1 := Lib.hid (HB.out.trans (hb1.mono HB.out.size))
      clear hb1
      by_cases h1 : n = 1
      · subst h1
        have hq : (((1 : Nat) : Int) != 1) = false := by simp
        go_wp2_with fail
        exact ⟨⟨k + 1, hlt, by go_num, Lib.hid (fun j hj h => by
          rcases Nat.lt_or_eq_of_le (Nat.le_of_lt_succ h) with h | rfl
          · exact I.out j hj h
          · exact HN.out), HB1.out⟩, by simp [intOf]; omega⟩
      · have hq : ((n : Int) != 1) = true := by rw [bne_iff_ne]; omega
        go_wp2_with fail
        go_ret
        exact ⟨HB1.out, .inr ⟨k, fun h => h1 (by rw [← HN.out]; exact h k hlt), rfl⟩⟩
    · obtain rfl : k = p.funcs.length := by omega
      go_wp2_with fail
      go_ret
      exact ⟨HB.out, .inl ⟨fun j hj => I.out j hj hj, rfl⟩⟩
set_option maxRecDepth 100000 in
set_option maxHeartbeats 2000000 in
theorem single_any (FA SA : Option Addr) (fc sc : Nat) (p : Pg) (B : Nat) (w : World) (H : PgOk w B FA SA fc sc p) (hfl : p.funcs.length ≤ 100) :
    Calls Tryz.prog 16 #[pgv FA SA fc sc p] w fun e w' => ∃ b : Bool, e = .returned (.bool b) ∧ (b = true ↔ OneFile p) ∧ Below w.heap.size w w' := by
  have hb0 := below_new w (.cells #[.int .u64 p.start, .slice FA p.funcs.length fc, .slice SA p.files.length sc, .bool p.big, .bool p.wide, .int .i64 p.quantum] 26)
  have HI := Lib.hid (fun W hb => indexSingle_any FA SA fc sc p B W (H.keep (Below.mono (w := w) (w' := W) hb H.bd)) hfl)
  have HB0 := Lib.hid hb0
  clear hb0 H
  go_enter Tryz.func16, Tryz.ntmps16
  go_wp2_with fail
  generalize (w.alloc (.cells #[.int .u64 p.start, .slice FA p.funcs.length fc, .slice SA p.files.length sc, .bool p.big, .bool p.wide, .int .i64 p.quantum] 26)) = W0 at *
  have HC : Calls Tryz.prog 37 #[.slice FA p.funcs.length fc, .func (.func 38) #[] #[]] W0 fun e w' => ∃ b : Bool, e = .returned (.bool b) ∧ (b = false ↔ OneFile p) ∧ Below W0.heap.size W0 w' := by
    have HII := Lib.hid (HI.out W0 HB0.out)
    clear HI
    go_enter Tryz.func37, Tryz.ntmps37
    go_wp2_with fail
    refine Calls.mono HII.out ?_
    rintro e w1 ⟨hb1, ⟨ho, rfl⟩ | ⟨k, ho, rfl⟩⟩
    · have HO := Lib.hid ho
      have HB1 := Lib.hid hb1
      clear ho hb1
      go_wp2_with fail
      go_ret
      exact ⟨false, rfl, ⟨fun _ => HO.out, fun _ => rfl⟩, HB1.out⟩
    · have HO := Lib.hid ho
      have HB1 := Lib.hid hb1
      clear ho hb1
      have hd : decide ((0 : Int) ≤ (k : Int)) = true := by simp
      go_wp2_with fail
      go_ret
      exact ⟨true, by simp, ⟨fun h => (by cases h), fun h => absurd h HO.out⟩, HB1.out⟩
  refine Calls.mono HC ?_
  rintro e w1 ⟨b, rfl, hbi, hb1⟩
  have HB1 := Lib.hid (HB0.out.trans (hb1.mono HB0.out.size))
  have HBI := Lib.hid hbi
  clear hbi hb1
  cases b
  · have HO : Hid (OneFile p) := Lib.hid (HBI.out.1 rfl)
    go_wp2_with fail
    go_ret
    exact ⟨true, by simp, ⟨fun _ => HO.out, fun _ => rfl⟩, HB1.out⟩
  · have HO : Hid (¬ OneFile p) := Lib.hid (fun h => by have := HBI.out.2 h; cases this)
    go_wp2_with fail
    go_ret
    exact ⟨false, by simp, ⟨fun h => (by cases h), fun h => absurd h HO.out⟩, HB1.out⟩
end Go.Proofs.YtoedlabfiialfaaGreat
