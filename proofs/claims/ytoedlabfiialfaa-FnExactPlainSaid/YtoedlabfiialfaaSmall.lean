/-
  The walks through the small functions of the reference: quanta, text, runs.
-/
import Derived.Test.YtoedlabfiialfaaData
namespace Go.Proofs.Ytoedlabfiialfaa
open Go.RowKit

set_option maxHeartbeats 400000 in
theorem quanta_any (A : Option Addr) (c : Nat) (l : List Run) (B : Nat) (w : World) (H : RunOk w B A l) (hB : B ≤ w.heap.size) :
    Calls Try.prog 24 #[.slice A l.length c] w fun e w' => e = .returned (.int .u64 (quantaTo l l.length)) ∧ Below w.heap.size w w' := by
  have hl := H.len
  unfold maxLen at hl
  go_enter Try.func24, Try.ntmps24
  go_wp2_with fail
  go_loopw [3, 8] (fun n i wr => ∃ k : Nat, k ≤ l.length ∧ i = .int .i64 k ∧ n = .int .u64 (quantaTo l k) ∧ Below w.heap.size w wr) (fun _ i _ => l.length - (intOf i).toNat)
  case atStart => exact ⟨0, Nat.zero_le _, rfl, rfl, Below.refl _ _⟩
  case round =>
    obtain ⟨k, hk, rfl, rfl, hb⟩ := hrel
    by_cases hlt : k < l.length
    · obtain ⟨b, off, rfl, hbB, h1, h2⟩ := (H.keep (hb.mono hB)).sl k hlt
      have hq := H.q k hlt
      have hst : quantaTo l (k + 1) = IntKind.u64.wrap (quantaTo l k + l[k].q) := by
        simp [quantaTo, List.getD, hlt]
      have HST := Lib.hid hst
      clear hst
      generalize l[k] = r at *
      generalize quantaTo l k = x at *
      go_wp2_with fail
      exact ⟨⟨k + 1, by omega, by go_num, by rw [HST.out], hb.alloc hb.size _⟩, by simp [intOf]; omega⟩
    · obtain rfl : k = l.length := by omega
      go_wp2_with fail
      go_ret
      exact ⟨rfl, hb⟩

/-- a bool that is true just where P holds; what was there is as it was -/
def BoolIs (P : Prop) (w : World) (e : Ending) (w' : World) : Prop := ∃ b, e = .returned (.bool b) ∧ (b = true ↔ P) ∧ Below w.heap.size w w'
/-- the same, the world as it was -/
def BoolSame (P : Prop) (w : World) (e : Ending) (w' : World) : Prop := ∃ b, e = .returned (.bool b) ∧ (b = true ↔ P) ∧ w = w'
theorem BoolIs.mk_yes {P : Prop} {w w' : World} {v : Value} (hv : v = .bool true) (h : P) (hb : Below w.heap.size w w') : BoolIs P w (.returned v) w' := ⟨true, by rw [hv], ⟨fun _ => h, fun _ => rfl⟩, hb⟩
theorem BoolIs.mk_no {P : Prop} {w w' : World} {v : Value} (hv : v = .bool false) (h : ¬ P) (hb : Below w.heap.size w w') : BoolIs P w (.returned v) w' := ⟨false, by rw [hv], ⟨fun h => by (cases h), fun h' => absurd h' h⟩, hb⟩
theorem BoolSame.mk_yes {P : Prop} {w : World} {v : Value} (hv : v = .bool true) (h : P) : BoolSame P w (.returned v) w := ⟨true, by rw [hv], ⟨fun _ => h, fun _ => rfl⟩, rfl⟩
theorem BoolSame.mk_no {P : Prop} {w : World} {v : Value} (hv : v = .bool false) (h : ¬ P) : BoolSame P w (.returned v) w := ⟨false, by rw [hv], ⟨fun h => by (cases h), fun h' => absurd h' h⟩, rfl⟩
theorem BoolIs.yes {P : Prop} {w w' : World} {e : Ending} (h : BoolIs P w e w') (hp : P) : e = .returned (.bool true) ∧ Below w.heap.size w w' := by
  obtain ⟨b, rfl, h1, h2⟩ := h
  obtain rfl : b = true := h1.2 hp
  exact ⟨rfl, h2⟩
theorem BoolIs.no {P : Prop} {w w' : World} {e : Ending} (h : BoolIs P w e w') (hp : ¬ P) : e = .returned (.bool false) ∧ Below w.heap.size w w' := by
  obtain ⟨b, rfl, h1, h2⟩ := h
  cases b
  · exact ⟨rfl, h2⟩
  · exact absurd (h1.1 rfl) hp
theorem BoolSame.yes {P : Prop} {w w' : World} {e : Ending} (h : BoolSame P w e w') (hp : P) : e = .returned (.bool true) ∧ w = w' := by
  obtain ⟨b, rfl, h1, h2⟩ := h
  obtain rfl : b = true := h1.2 hp
  exact ⟨rfl, h2⟩
theorem BoolSame.no {P : Prop} {w w' : World} {e : Ending} (h : BoolSame P w e w') (hp : ¬ P) : e = .returned (.bool false) ∧ w = w' := by
  obtain ⟨b, rfl, h1, h2⟩ := h
  cases b
  · exact ⟨rfl, h2⟩
  · exact absurd (h1.1 rfl) hp

set_option maxHeartbeats 400000 in
theorem text_any (s : ByteArray) (w : World) (hs : s.size ≤ maxLen) :
    Calls Try.prog 21 #[.string s] w (BoolSame (TextOk s) w) := by
  unfold maxLen at hs
  go_enter Try.func21, Try.ntmps21
  go_wp2_with fail
  go_loop [3] (fun i => ∃ k : Nat, k ≤ s.size ∧ i = .int .i64 k ∧ (∀ j (h : j < s.size), j < k → s[j] ≠ 0)) (fun i => s.size - (intOf i).toNat)
  case atStart => exact ⟨0, Nat.zero_le _, rfl, fun j _ h => absurd h (by omega)⟩
  case round =>
    obtain ⟨k, hk, rfl, hall⟩ := hrel
    have HA := Lib.hid hall
    clear hall
    by_cases hlt : k < s.size
    · by_cases h0 : s[k] = 0
      · have hq : ((s[k].toNat : Int) == 0) = true := by rw [h0]; rfl
        have HN : Hid (¬ TextOk s) := Lib.hid (fun h => h.no0 k hlt h0)
        clear h0
        go_wp2_with fail
        go_ret
        exact BoolSame.mk_no rfl HN.out
      · have hq : ((s[k].toNat : Int) == 0) = false := by
          rw [beq_eq_false_iff_ne]
          intro h
          exact h0 (UInt8.toNat_inj.1 (by simpa using Int.ofNat_inj.1 h))
        have HK := Lib.hid h0
        clear h0
        go_wp2_with fail
        exact ⟨⟨k + 1, by omega, by go_num, fun j hj hjk => by
          rcases Nat.lt_or_ge j k with h | h
          · exact HA.out j hj h
          · obtain rfl : j = k := by omega
            exact HK.out⟩, by simp [intOf]; omega⟩
    · have HA2 := Lib.hid (fun j (hj : j < s.size) => HA.out j hj (by omega))
      by_cases h0 : 0 < s.size
      · by_cases h1 : s.size ≤ 1000
        · go_wp2_with fail
          go_ret
          exact BoolSame.mk_yes (by simp <;> omega) ⟨HA2.out, h0, h1⟩
        · go_wp2_with fail
          go_ret
          exact BoolSame.mk_no (by simp <;> omega) (fun h => h1 h.le)
      · go_wp2_with fail
        go_ret
        exact BoolSame.mk_no (by simp <;> omega) (fun h => h0 h.pos)

set_option maxHeartbeats 1000000 in
theorem runs_any (A : Option Addr) (c : Nat) (l : List Run) (most : Int) (B : Nat) (w : World) (H : RunOk w B A l) (hB : B ≤ w.heap.size) (_ : -2147483648 ≤ most ∧ most ≤ 2147483647) :
    Calls Try.prog 23 #[.slice A l.length c, .int .i32 most] w (BoolIs (RunsGood l most) w) := by
  have hl := H.len
  unfold maxLen at hl
  go_enter Try.func23, Try.ntmps23
  go_wp2_with fail
  go_loopw [9] (fun i wr => ∃ k : Nat, k ≤ l.length ∧ i = .int .i64 k ∧ (∀ j (h : j < l.length), j < k → RunGood l most j l[j]) ∧ Below w.heap.size w wr) (fun i _ => l.length - (intOf i).toNat)
  case atStart => exact ⟨0, Nat.zero_le _, rfl, fun j _ h => absurd h (by omega), Below.refl _ _⟩
  case round =>
    obtain ⟨k, hk, rfl, hall, hb⟩ := hrel
    have HA := Lib.hid hall
    clear hall
    by_cases hlt : k < l.length
    · have HR := H.keep (hb.mono hB)
      obtain ⟨b, off, rfl, hbB, h1, h2⟩ := HR.sl k hlt
      have hq := H.q k hlt
      have hv := H.v k hlt
      have HX := Lib.hid (show l[k] = l[k] from rfl)
      have hlt2 : b < wr.heap.size := Nat.lt_of_lt_of_le (Nat.lt_of_lt_of_le hbB hB) hb.size
      have HG : ∀ r, l[k] = r → 1 ≤ r.q → r.q ≤ 65536 → 1 ≤ r.v → r.v ≤ most → (∀ k', k = k' + 1 → ∀ h : k' < l.length, l[k'].v ≠ r.v) → Hid (∀ j (h : j < l.length), j < k + 1 → RunGood l most j l[j]) := fun r er g1 g2 g3 g4 g5 => by
        intro j hj hjk
        rcases Nat.lt_or_ge j k with h | h
        · exact HA.out j hj h
        · obtain rfl : j = k := by omega
          rw [er]
          exact ⟨g1, g2, g3, g4, g5⟩
      have HG' := Lib.hid HG
      have HNO : ∀ r, l[k] = r → ¬ RunGood l most k r → ¬ RunsGood l most := fun r er h hg => h (er ▸ hg.each k hlt)
      have HNO' := Lib.hid HNO
      clear HG HX HNO
      generalize hr : l[k] = r at *
      have HR0 := Lib.hid hr
      clear hr
      by_cases c1 : r.q < 1
      · have d1 : decide ((r.q : Int) < 1) = true := by simp; omega
        go_wp2_with fail
        go_quiet (fail)
        go_wp2_with fail
        go_ret
        exact BoolIs.mk_no rfl (HNO'.out r rfl (fun h => by have := h.q1; omega)) (below_drewN (hb.alloc hb.size _) _)
      by_cases c2 : 65536 < r.q
      · have d1 : decide ((r.q : Int) < 1) = false := by simp; omega
        have d2 : decide ((65536 : Int) < r.q) = true := by simp; omega
        go_wp2_with fail
        go_quiet (fail)
        go_wp2_with fail
        go_ret
        exact BoolIs.mk_no rfl (HNO'.out r rfl (fun h => by have := h.q2; omega)) (below_drewN (hb.alloc hb.size _) _)
      by_cases c3 : r.v < 1
      · have d1 : decide ((r.q : Int) < 1) = false := by simp; omega
        have d2 : decide ((65536 : Int) < r.q) = false := by simp; omega
        have d3 : decide (r.v < 1) = true := by simp; omega
        go_wp2_with fail
        go_quiet (fail)
        go_wp2_with fail
        go_ret
        exact BoolIs.mk_no rfl (HNO'.out r rfl (fun h => by have := h.v1; omega)) (below_drewN (hb.alloc hb.size _) _)
      by_cases c4 : most < r.v
      · have d1 : decide ((r.q : Int) < 1) = false := by simp; omega
        have d2 : decide ((65536 : Int) < r.q) = false := by simp; omega
        have d3 : decide (r.v < 1) = false := by simp; omega
        have d4 : decide (most < r.v) = true := by simp; omega
        go_wp2_with fail
        go_quiet (fail)
        go_wp2_with fail
        go_ret
        exact BoolIs.mk_no rfl (HNO'.out r rfl (fun h => by have := h.v2; omega)) (below_drewN (hb.alloc hb.size _) _)
      have d1 : decide ((r.q : Int) < 1) = false := by simp; omega
      have d2 : decide ((65536 : Int) < r.q) = false := by simp; omega
      have d3 : decide (r.v < 1) = false := by simp; omega
      have d4 : decide (most < r.v) = false := by simp; omega
      rcases Nat.eq_zero_or_pos k with rfl | hk0
      · have HN := HG'.out r rfl (by omega) (by omega) (by omega) (by omega) (fun k' h => absurd h (by omega))
        simp only [Nat.zero_mul, Nat.add_zero] at h1 h2
        go_wp2_with fail
        go_quiet (fail)
        go_wp2_with fail
        exact ⟨⟨1, by omega, rfl, HN.out, below_drewN (hb.alloc hb.size _) _⟩, by simp [intOf]; omega⟩
      obtain ⟨k', rfl⟩ : ∃ k', k = k' + 1 := ⟨k - 1, by omega⟩
      obtain ⟨b', off', e', hbB', h1', h2'⟩ := HR.sl k' (by omega)
      obtain ⟨rfl, rfl⟩ : b = b' ∧ off = off' := by
        injection e' with e'
        injection e' with e1 e2
        exact ⟨e1, e2⟩
      clear e'
      generalize hp : l[k'] = r' at *
      have HP := Lib.hid hp
      clear hp
      by_cases c5 : r'.v = r.v
      · have d5 : (r'.v == r.v) = true := by rw [beq_iff_eq]; exact c5
        have HBAD : Hid (¬ RunGood l most (k' + 1) r) := Lib.hid (fun h => h.ne k' rfl (by omega) (by rw [HP.out]; exact c5))
        clear c5
        go_wp2_with fail
        go_quiet (fail)
        go_wp2_with fail
        go_ret
        exact BoolIs.mk_no rfl (HNO'.out r rfl HBAD.out) (below_drewN (hb.alloc hb.size _) _)
      · have d5 : (r'.v == r.v) = false := by rw [beq_eq_false_iff_ne]; exact c5
        have HN := HG'.out r rfl (by omega) (by omega) (by omega) (by omega) (fun k'' h hk'' => by
          obtain rfl : k' = k'' := by omega
          rw [HP.out]
          exact c5)
        clear c5
        go_wp2_with fail
        go_quiet (fail)
        go_wp2_with fail
        exact ⟨⟨k' + 2, by omega, by go_num, HN.out, below_drewN (hb.alloc hb.size _) _⟩, by simp [intOf]; omega⟩
    · have HA2 := Lib.hid (fun j (hj : j < l.length) => HA.out j hj (by omega))
      by_cases h0 : 0 < l.length
      · by_cases h1 : l.length ≤ 100
        · go_wp2_with fail
          go_ret
          exact BoolIs.mk_yes (by simp <;> omega) ⟨HA2.out, h0, h1⟩ hb
        · go_wp2_with fail
          go_ret
          exact BoolIs.mk_no (by simp <;> omega) (fun h => h1 h.le) hb
      · go_wp2_with fail
        go_ret
        exact BoolIs.mk_no (by simp <;> omega) (fun h => h0 h.pos) hb
end Go.Proofs.Ytoedlabfiialfaa
