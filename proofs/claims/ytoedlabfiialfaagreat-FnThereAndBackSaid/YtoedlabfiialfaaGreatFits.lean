/-
  The walks through the size tests of the laws, and through the search in a list of texts.
-/
import Derived.Test.YtoedlabfiialfaaGreatSmall
namespace Go.Proofs.YtoedlabfiialfaaGreat
open Go.RowKit

/-- where a text is found first in a list; -1: nowhere -/
structure FirstIn (l : List ByteArray) (x : ByteArray) (r : Int) : Prop where
  at_ : r = -1 ∨ ∃ k : Nat, ∃ h : k < l.length, r = k ∧ l[k] = x
  none_ : ∀ j (h : j < l.length), r = -1 ∨ (j : Int) < r → l[j] ≠ x

theorem firstIn_ex (l : List ByteArray) (x : ByteArray) : ∃ r, FirstIn l x r := by
  by_cases h : ∃ k, ∃ h : k < l.length, l[k] = x
  · have : ∃ k, (∃ h : k < l.length, l[k] = x) ∧ ∀ j, j < k → ¬ ∃ h : j < l.length, l[j] = x := by
      obtain ⟨k, hk⟩ := h
      induction k using Nat.strongRecOn with
      | _ k ih =>
        by_cases h' : ∃ j, j < k ∧ ∃ h : j < l.length, l[j] = x
        · obtain ⟨j, hj, hx⟩ := h'
          exact ih j hj hx
        · exact ⟨k, hk, fun j hj hx => h' ⟨j, hj, hx⟩⟩
    obtain ⟨k, ⟨hk, hx⟩, hn⟩ := this
    exact ⟨k, .inr ⟨k, hk, rfl, hx⟩, fun j hj hlt e => hn j (by omega) ⟨hj, e⟩⟩
  · exact ⟨-1, .inl rfl, fun j hj _ e => h ⟨j, hj, e⟩⟩

theorem toList_ne {a b : ByteArray} (h : a ≠ b) : (a.toList == b.toList) = false := by
  rw [beq_eq_false_iff_ne, ByteArray.toList_eq, ByteArray.toList_eq]
  intro e
  exact h (ByteArray.ext (Array.toList_inj.1 e))

set_option maxHeartbeats 400000 in
theorem index_any (A : Option Addr) (n c : Nat) (l : List ByteArray) (x : ByteArray) (r : Int) (B : Nat) (w : World) (hn : l.length = n) (hl : n ≤ maxLen) (H : StrSl w B A l) (hr : FirstIn l x r) :
    Calls Tryz.prog 43 #[.slice A n c, .string x] w fun e w' => e = .returned (.int .i64 r) ∧ w = w' := by
  subst hn
  unfold maxLen at hl
  go_enter Tryz.func43, Tryz.ntmps43
  go_wp2_with fail
  go_loop [8] (fun i => ∃ k : Nat, k ≤ l.length ∧ i = .int .i64 k ∧ (r = -1 ∨ (k : Int) ≤ r)) (fun i => l.length - (intOf i).toNat)
  case atStart => exact ⟨0, Nat.zero_le _, rfl, by rcases hr.at_ with h | ⟨k, h, h1, h2⟩ <;> omega⟩
  case round =>
    obtain ⟨k, hk, rfl, hkr⟩ := hrel
    by_cases hlt : k < l.length
    · obtain ⟨b, off, rfl, hbB, h1⟩ := H k hlt
      by_cases e : r = k
      · have hx : l[k] = x := by
          rcases hr.at_ with h | ⟨k', h, h1, h2⟩
          · omega
          · obtain rfl : k = k' := by omega
            exact h2
        rw [hx] at h1
        subst e
        clear hx
        go_wp2_with fail
        go_ret
        exact ⟨rfl, rfl⟩
      · have hx : l[k] ≠ x := hr.none_ k hlt (by omega)
        have hq := toList_ne (Ne.symm hx)
        generalize l[k] = y at *
        clear hx
        go_wp2_with fail
        exact ⟨⟨k + 1, by omega, by go_num, by omega⟩, by simp [intOf]; omega⟩
    · have : r = -1 := by rcases hr.at_ with h | ⟨k, h, h1, h2⟩ <;> omega
      subst this
      go_wp2_with fail
      go_ret
      exact ⟨rfl, rfl⟩

set_option maxHeartbeats 400000 in
theorem contains_any (A : Option Addr) (n c : Nat) (l : List ByteArray) (x : ByteArray) (B : Nat) (w : World) (hn : l.length = n) (hl : n ≤ maxLen) (H : StrSl w B A l) :
    Calls Tryz.prog 25 #[.slice A n c, .string x] w (BoolSame (InL l x) w) := by
  obtain ⟨r, hr⟩ := firstIn_ex l x
  by_cases h : r = -1
  · have hno : ¬ InL l x := fun ⟨k, hk, e⟩ => hr.none_ k hk (.inl h) e
    subst h
    go_enter Tryz.func25, Tryz.ntmps25
    go_wp2_with fail
    refine (index_any A n c l x _ B _ hn hl H hr).mono ?_
    rintro e w' ⟨rfl, rfl⟩
    go_wp2_with fail
    go_ret
    exact BoolSame.mk_no rfl hno
  · obtain ⟨k, hk, rfl, e⟩ := hr.at_.resolve_left h
    have hyes : InL l x := ⟨k, hk, e⟩
    clear h e
    go_enter Tryz.func25, Tryz.ntmps25
    go_wp2_with fail
    refine (index_any A n c l x _ B _ hn hl H hr).mono ?_
    rintro e w' ⟨rfl, rfl⟩
    go_wp2_with fail
    go_ret
    exact BoolSame.mk_yes (by simp) hyes

/-- some bool -/
def SomeBool (w : World) (e : Ending) (w' : World) : Prop := ∃ b, e = .returned (.bool b) ∧ Below w.heap.size w w'

set_option maxHeartbeats 400000 in
theorem zzFits4_any (A : Option Addr) (c : Nat) (l : List ByteArray) (B : Nat) (w : World) (hl : l.length ≤ maxLen) (hsz : ∀ k (h : k < l.length), l[k].size ≤ maxLen) (H : StrSl w B A l) :
    Calls Tryz.prog 23 #[.slice A l.length c] w (SomeBool w) := by
  unfold maxLen at hl
  go_enter Tryz.func23, Tryz.ntmps23
  by_cases hlen : 2147483647 < l.length
  · go_wp2_with fail
    go_ret
    exact ⟨false, rfl, Below.refl _ _⟩
  · go_wp2_with fail
    go_loop [10] (fun i => ∃ k : Nat, k ≤ l.length ∧ i = .int .i64 k) (fun i => l.length - (intOf i).toNat)
    case atStart => exact ⟨0, Nat.zero_le _, rfl⟩
    case round =>
      obtain ⟨k, hk, rfl⟩ := hrel
      by_cases hlt : k < l.length
      · obtain ⟨b, off, rfl, hbB, h1⟩ := H k hlt
        have hszk := hsz k hlt
        unfold maxLen at hszk
        generalize l[k] = x at *
        by_cases hsm : 2147483647 < x.size
        · go_wp2_with fail
          go_ret
          exact ⟨false, rfl, Below.refl _ _⟩
        · go_wp2_with fail
          exact ⟨⟨k + 1, by omega, by go_num⟩, by simp [intOf]; omega⟩
      · go_wp2_with fail
        go_ret
        exact ⟨true, rfl, Below.refl _ _⟩

set_option maxHeartbeats 400000 in
theorem zzFits3_any (nm : ByteArray) (fr : Int) (fre : Nat) (LA FA : Option Addr) (ln lc fn fc : Nat) (w : World) (h1 : nm.size ≤ maxLen) (h2 : ln ≤ maxLen) (h3 : fn ≤ maxLen) :
    Calls Tryz.prog 42 #[.agg #[.string nm, .int .i32 fr, .slice LA ln lc, .slice FA fn fc, .int .u32 fre]] w (SomeBool w) := by
  unfold maxLen at h1 h2 h3
  have hb1 : ∀ o, Below w.heap.size w (w.alloc o) := fun o => (Below.refl _ _).alloc (Nat.le_refl _) o
  have hb1' := Lib.hid hb1
  clear hb1
  by_cases c1 : 2147483647 < nm.size
  · go_enter Tryz.func42, Tryz.ntmps42
    go_wp2_with fail
    go_ret
    exact ⟨false, rfl, hb1'.out _⟩
  by_cases c2 : 2147483647 < ln
  · go_enter Tryz.func42, Tryz.ntmps42
    go_wp2_with fail
    go_ret
    exact ⟨false, rfl, hb1'.out _⟩
  by_cases c3 : 2147483647 < fn
  · go_enter Tryz.func42, Tryz.ntmps42
    go_wp2_with fail
    go_ret
    exact ⟨false, rfl, hb1'.out _⟩
  · go_enter Tryz.func42, Tryz.ntmps42
    go_wp2_with fail
    go_ret
    exact ⟨true, rfl, hb1'.out _⟩

set_option maxHeartbeats 800000 in
theorem zzFits2_any (A : Option Addr) (c : Nat) (l : List Fn) (B : Nat) (w : World) (hl : l.length ≤ maxLen) (hB : B ≤ w.heap.size) (H : FnSl w B A l) :
    Calls Tryz.prog 22 #[.slice A l.length c] w (SomeBool w) := by
  unfold maxLen at hl
  go_enter Tryz.func22, Tryz.ntmps22
  by_cases hlen : 2147483647 < l.length
  · go_wp2_with fail
    go_ret
    exact ⟨false, rfl, Below.refl _ _⟩
  · go_wp2_with fail
    go_loopw [10] (fun i wr => ∃ k : Nat, k ≤ l.length ∧ i = .int .i64 k ∧ Below w.heap.size w wr) (fun i _ => l.length - (intOf i).toNat)
    case atStart => exact ⟨0, Nat.zero_le _, rfl, Below.refl _ _⟩
    case round =>
      obtain ⟨k, hk, rfl, hb⟩ := hrel
      by_cases hlt : k < l.length
      · obtain ⟨b, off, rfl, hf⟩ := (H.keep (hb.mono hB)) k hlt
        have c0 := hf.name
        have c1 := hf.frame
        obtain ⟨LA, lc, c2, r2⟩ := hf.lines
        obtain ⟨FA, fc, c3, r3⟩ := hf.files
        have c4 := hf.free
        have z0 := hf.szn
        have z2 := r2.len
        have z3 := r3.len
        go_wp2_with fail
        refine (zzFits3_any _ _ _ _ _ _ _ _ _ _ z0 z2 z3).mono ?_
        rintro e w2 ⟨b2, rfl, hb2⟩
        have hbw2 : Below w.heap.size w w2 := (hb.alloc hb.size _).trans (hb2.mono (by have := hb.size; simp; omega))
        cases b2
        · go_wp2_with fail
          go_ret
          exact ⟨false, rfl, hbw2⟩
        · go_wp2_with fail
          exact ⟨⟨k + 1, by omega, by go_num, hbw2⟩, by simp [intOf]; omega⟩
      · go_wp2_with fail
        go_ret
        exact ⟨true, rfl, hb⟩

set_option maxHeartbeats 800000 in
theorem zzFits1_any (FA SA : Option Addr) (fc sc : Nat) (p : Pg) (B : Nat) (w : World) (H : PgOk w B FA SA fc sc p) :
    Calls Tryz.prog 8 #[pgv FA SA fc sc p] w (SomeBool w) := by
  have hb1 : ∀ o, Below w.heap.size w (w.alloc o) := fun o => (Below.refl _ _).alloc (Nat.le_refl _) o
  have HH : ∀ o, PgOk (w.alloc o) B FA SA fc sc p := fun o => H.keep ((hb1 o).mono H.bd)
  have HH' := Lib.hid HH
  have hb1' := Lib.hid hb1
  have hbd := H.bd
  clear HH hb1
  go_enter Tryz.func8, Tryz.ntmps8
  go_wp2_with fail
  refine (zzFits2_any FA fc _ B _ H.fl (by simp; omega) (HH'.out _).fn).mono ?_
  rintro e w2 ⟨b2, rfl, hb2⟩
  have hbw2 : Below w.heap.size w w2 := (hb1'.out _).trans (hb2.mono (by simp))
  have hc2 := (bcell hb2).1
  cases b2
  · go_wp2_with fail
    go_ret
    exact ⟨false, rfl, hbw2⟩
  · go_wp2_with fail
    refine (zzFits4_any SA sc _ B _ H.sl H.ssz (H.keep (hbw2.mono hbd)).st).mono ?_
    rintro e w3 ⟨b3, rfl, hb3⟩
    have hbw3 : Below w.heap.size w w3 := hbw2.trans (hb3.mono hbw2.size)
    cases b3
    · go_wp2_with fail
      go_ret
      exact ⟨false, rfl, hbw3⟩
    · go_wp2_with fail
      go_ret
      exact ⟨true, rfl, hbw3⟩
end Go.Proofs.YtoedlabfiialfaaGreat
