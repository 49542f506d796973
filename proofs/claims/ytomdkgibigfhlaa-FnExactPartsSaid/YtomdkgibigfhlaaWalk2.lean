/-
  The walks through the functions that check a name and write it, for every name.
-/
import Derived.Test.YtomdkgibigfhlaaWalk1
import Derived.Deep.RegionHeld3
namespace Go.Proofs.Ytomdkgibigfhlaa
open Go.RowKit

/-- a slice of strings in memory -/
def StrSl (w : World) (B : Nat) (A : Option Addr) (l : List ByteArray) : Prop :=
  ∀ k (h : k < l.length), ∃ b off, A = some ⟨b, off, none⟩ ∧ b < B ∧ w.cell? ⟨b, off + k, none⟩ = some (.string l[k])
theorem StrSl.keep {w w' : World} {B : Nat} {A : Option Addr} {l : List ByteArray} (h : StrSl w B A l) (hb : Below B w w') : StrSl w' B A l := by
  intro k hk
  obtain ⟨b, off, e, hlt, hc⟩ := h k hk
  exact ⟨b, off, e, hlt, (hb.cell (p := ⟨b, off + k, none⟩) hlt).trans hc⟩

/-- no longer than the bound -/
def small (n : Nat) : Bool := decide (n ≤ 2147483647)
def fits4 (l : List ByteArray) : Bool := small l.length && l.all fun s => small s.size
theorem fits4_no (l : List ByteArray) (k : Nat) (h : k < l.length) (hs : 2147483647 < l[k].size) : fits4 l = false := by
  unfold fits4
  rw [Bool.and_eq_false_iff]
  right
  rw [List.all_eq_false]
  exact ⟨l[k], List.getElem_mem h, by simp [small]; omega⟩
theorem fits4_yes (l : List ByteArray) (hl : l.length ≤ 2147483647) (h : ∀ k (h : k < l.length), l[k].size ≤ 2147483647) : fits4 l = true := by
  unfold fits4
  rw [Bool.and_eq_true]
  refine ⟨by simp [small]; omega, ?_⟩
  rw [List.all_eq_true]
  intro x hx
  obtain ⟨i, hi, rfl⟩ := List.getElem_of_mem hx
  simp [small, h i hi]
theorem fits4_len {l : List ByteArray} (h : fits4 l = true) : l.length ≤ 2147483647 := by
  unfold fits4 at h
  rw [Bool.and_eq_true] at h
  exact of_decide_eq_true h.1
theorem fits4_el {l : List ByteArray} (h : fits4 l = true) (k : Nat) (hk : k < l.length) : l[k].size ≤ 2147483647 := by
  unfold fits4 at h
  rw [Bool.and_eq_true, List.all_eq_true] at h
  exact of_decide_eq_true (h.2 _ (List.getElem_mem hk))

set_option maxHeartbeats 400000 in
theorem zzFits4_any (A : Option Addr) (c : Nat) (l : List ByteArray) (B : Nat) (w : World) (hl : l.length ≤ maxLen) (hsz : ∀ k (h : k < l.length), l[k].size ≤ maxLen) (H : StrSl w B A l) :
    Calls Try.prog 12 #[.slice A l.length c] w fun e w' => e = .returned (.bool (fits4 l)) ∧ w = w' := by
  unfold maxLen at hl
  by_cases hlen : 2147483647 < l.length
  · have hf : fits4 l = false := by
      unfold fits4 small
      rw [Bool.and_eq_false_iff]
      exact .inl (decide_eq_false (by omega))
    have HF := Lib.hid hf
    clear hf
    go_enter Try.func12, Try.ntmps12
    go_wp2
    go_ret
    exact ⟨by rw [HF.out]; rfl, rfl⟩
  · go_enter Try.func12, Try.ntmps12
    go_wp2
    go_loop [10] (fun i => ∃ k : Nat, k ≤ l.length ∧ i = .int .i64 k ∧ (∀ j (h : j < l.length), j < k → l[j].size ≤ 2147483647)) (fun i => l.length - (intOf i).toNat)
    case atStart => exact ⟨0, Nat.zero_le _, rfl, fun j _ h => absurd h (by omega)⟩
    case round =>
      obtain ⟨k, hk, rfl, hall⟩ := hrel
      have HA := Lib.hid hall
      clear hall
      by_cases hlt : k < l.length
      · obtain ⟨b, off, rfl, hbB, hc⟩ := H k hlt
        have hszk := hsz k hlt
        unfold maxLen at hszk
        by_cases hsm : 2147483647 < l[k].size
        · have HF := Lib.hid (fits4_no l k hlt hsm)
          generalize l[k] = x at *
          go_wp2
          go_ret
          exact ⟨by rw [HF.out]; rfl, rfl⟩
        · have HK : Hid (l[k].size ≤ 2147483647) := Lib.hid (by omega)
          generalize hx : l[k] = x at *
          have HX := Lib.hid hx
          clear hx
          go_wp2
          exact ⟨⟨k + 1, by omega, by go_num, fun j hj hjk => by
              rcases Nat.lt_or_ge j k with h | h
              · exact HA.out j hj h
              · obtain rfl : j = k := by omega
                rw [HX.out]
                exact HK.out⟩, by simp [intOf]; omega⟩
      · have HF := Lib.hid (fits4_yes l (by omega) (fun j hj => HA.out j hj (by omega)))
        go_wp2
        go_ret
        exact ⟨by rw [HF.out]; rfl, rfl⟩

/-- a name as a value -/
def named (A : Option Addr) (c : Nat) (l : List ByteArray) (T : ByteArray) (p : Bool) (B : ByteArray) : Value := .agg #[.slice A l.length c, .string T, .bool p, .string B]

structure NamedOk (w : World) (Bd : Nat) (A : Option Addr) (l : List ByteArray) (T B : ByteArray) : Prop where
  len : l.length ≤ maxLen
  els : ∀ k (h : k < l.length), l[k].size ≤ maxLen
  T : T.size ≤ maxLen
  B : B.size ≤ maxLen
  sl : StrSl w Bd A l
  bd : Bd ≤ w.heap.size

theorem NamedOk.keep {w w' : World} {Bd : Nat} {A : Option Addr} {l : List ByteArray} {T B : ByteArray} (h : NamedOk w Bd A l T B) (hb : Below Bd w w') : NamedOk w' Bd A l T B :=
  ⟨h.len, h.els, h.T, h.B, h.sl.keep hb, Nat.le_trans h.bd hb.size⟩

def fits5 (l : List ByteArray) (T B : ByteArray) : Bool := fits4 l && small T.size && small B.size

set_option maxHeartbeats 400000 in
theorem zzFits5_any (A : Option Addr) (c : Nat) (l : List ByteArray) (T B : ByteArray) (p : Bool) (Bd : Nat) (w : World) (H : NamedOk w Bd A l T B) :
    Calls Try.prog 5 #[.agg #[.slice A l.length c, .string T, .bool p, .string B]] w fun e w' => e = .returned (.bool (fits5 l T B)) ∧ Below w.heap.size w w' := by
  have hT := H.T
  have hB := H.B
  unfold maxLen at hT hB
  have hb1 : ∀ o, Below w.heap.size w (w.alloc o) := fun o => (Below.refl _ _).alloc (Nat.le_refl _) o
  have HH : ∀ o, NamedOk (w.alloc o) Bd A l T B := fun o => H.keep ((hb1 o).mono H.bd)
  have HH' := Lib.hid HH
  have hb1' := Lib.hid hb1
  clear HH hb1
  cases hf : fits4 l
  · have HF : Hid (fits5 l T B = false) := Lib.hid (by unfold fits5; rw [hf]; rfl)
    have Hf := Lib.hid hf
    clear hf
    go_enter Try.func5, Try.ntmps5
    go_wp2_with fail
    refine (zzFits4_any A c l Bd _ H.len H.els (HH'.out _).sl).mono ?_
    rintro e w' ⟨rfl, rfl⟩
    rw [Hf.out]
    go_wp2_with fail
    go_ret
    exact ⟨by rw [HF.out]; rfl, hb1'.out _⟩
  · have HF : Hid (fits5 l T B = (small T.size && small B.size)) := Lib.hid (by unfold fits5; rw [hf]; rfl)
    have Hf := Lib.hid hf
    clear hf
    by_cases h1 : 2147483647 < T.size
    · go_enter Try.func5, Try.ntmps5
      go_wp2_with fail
      refine (zzFits4_any A c l Bd _ H.len H.els (HH'.out _).sl).mono ?_
      rintro e w' ⟨rfl, rfl⟩
      rw [Hf.out]
      go_wp2_with fail
      go_ret
      exact ⟨by rw [HF.out]; simp [small]; omega, hb1'.out _⟩
    · by_cases h2 : 2147483647 < B.size
      · go_enter Try.func5, Try.ntmps5
        go_wp2_with fail
        refine (zzFits4_any A c l Bd _ H.len H.els (HH'.out _).sl).mono ?_
        rintro e w' ⟨rfl, rfl⟩
        rw [Hf.out]
        go_wp2_with fail
        go_ret
        exact ⟨by rw [HF.out]; simp [small]; omega, hb1'.out _⟩
      · go_enter Try.func5, Try.ntmps5
        go_wp2_with fail
        refine (zzFits4_any A c l Bd _ H.len H.els (HH'.out _).sl).mono ?_
        rintro e w' ⟨rfl, rfl⟩
        rw [Hf.out]
        go_wp2_with fail
        go_ret
        exact ⟨by rw [HF.out]; simp [small]; omega, hb1'.out _⟩

end Go.Proofs.Ytomdkgibigfhlaa
