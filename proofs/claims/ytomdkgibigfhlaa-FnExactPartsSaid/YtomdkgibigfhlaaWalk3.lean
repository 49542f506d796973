/-
  The walks through the functions that check a name and write it as a text, for every name.
-/
import Derived.Test.YtomdkgibigfhlaaWalk2
namespace Go.Proofs.Ytomdkgibigfhlaa
open Go.RowKit

theorem isWord_one (b : UInt8) : isWord ⟨#[b]⟩ = wc b := by
  simp [isWord]
theorem isWord_yes {s : ByteArray} (h : isWord s = true) : 0 < s.size ∧ ∀ k (h : k < s.size), wc s[k] = true := by
  unfold isWord at h
  rw [Bool.and_eq_true, List.all_eq_true] at h
  obtain ⟨h1, h2⟩ := h
  constructor
  · have : s.data.toList ≠ [] := by simpa using h2
    have := List.length_pos_iff.2 this
    simpa using this
  · intro k hk
    exact h1 _ (Array.getElem_mem_toList _)

/-- an element of a path: words, and dots but in the last one -/
def elOk (l : List ByteArray) (i : Nat) (s : ByteArray) (k : Nat) : Prop := ∀ j (h : j < s.size), j < k → wc s[j] = true ∨ (s[j] = 46 ∧ i + 1 ≠ l.length)
structure WellN (l : List ByteArray) (T B : ByteArray) : Prop where
  some_ : 0 < l.length
  els : ∀ i (h : i < l.length), 0 < l[i].size ∧ elOk l i l[i] l[i].size
  base : isWord B = true
  type : T.size = 0 ∨ isWord T = true

def WellPost (P : Prop) (w : World) (e : Ending) (w' : World) : Prop := ∃ b, e = .returned (.bool b) ∧ (b = true → P) ∧ Below w.heap.size w w'

set_option maxHeartbeats 1000000 in
theorem well_any (A : Option Addr) (c : Nat) (l : List ByteArray) (T B : ByteArray) (p : Bool) (Bd : Nat) (w : World) (H : NamedOk w Bd A l T B) :
    Calls Try.prog 6 #[.agg #[.slice A l.length c, .string T, .bool p, .string B]] w (WellPost (WellN l T B) w) := by
  have hT := H.T
  have hB := H.B
  have hl := H.len
  unfold maxLen at hT hB hl
  have hb1 : ∀ o, Below w.heap.size w (w.alloc o) := fun o => (Below.refl _ _).alloc (Nat.le_refl _) o
  have HH : ∀ o, NamedOk (w.alloc o) Bd A l T B := fun o => H.keep ((hb1 o).mono H.bd)
  have HH' := Lib.hid HH
  have hb1' := Lib.hid hb1
  clear HH hb1
  go_enter Try.func6, Try.ntmps6
  go_wp2_with fail
  go_loop [9] (fun i => ∃ k : Nat, k ≤ l.length ∧ i = .int .i64 k ∧ (∀ j (h : j < l.length), j < k → 0 < l[j].size ∧ elOk l j l[j] l[j].size)) (fun i => l.length - (intOf i).toNat)
  case atStart => exact ⟨0, Nat.zero_le _, rfl, fun j _ h => absurd h (by omega)⟩
  case round =>
    obtain ⟨i, hi, rfl, hall⟩ := hrel
    have HA := Lib.hid hall
    clear hall
    by_cases hlt : i < l.length
    · have hszk := H.els i hlt
      obtain ⟨b, off, rfl, hbB, hc⟩ := (HH'.out (.cells #[.slice A l.length c, .string T, .bool p, .string B] 24)).sl i hlt
      unfold maxLen at hszk
      generalize hx : l[i] = x at *
      have HX := Lib.hid hx
      clear hx
      go_wp2_with fail
      go_loop [5] (fun t => ∃ k : Nat, k ≤ x.size ∧ t = .int .i64 k ∧ elOk l i x k) (fun t => x.size - (intOf t).toNat)
      case atStart => exact ⟨0, Nat.zero_le _, rfl, fun j _ h => absurd h (by omega)⟩
      case round =>
        obtain ⟨k, hk, rfl, hel⟩ := hrel
        have HE := Lib.hid hel
        clear hel
        by_cases hkx : k < x.size
        · have he := ext1 x k hkx
          go_wp2_with fail
          refine (word_any _ _ (by unfold maxLen; show 1 ≤ _; omega)).mono ?_
          rintro e w' ⟨rfl, rfl⟩
          rw [isWord_one]
          cases hw : wc x[k]
          · by_cases h46 : x[k] = 46
            · have hq : ((x[k].toNat : Int) != 46) = false := by rw [h46]; rfl
              have H46 := Lib.hid h46
              clear h46
              by_cases hlast : i + 1 = l.length
              · have hq2 : ((i : Int) == (l.length : Int) - 1) = true := by rw [beq_iff_eq]; omega
                clear hlast
                go_wp2_with fail
                go_ret
                exact ⟨false, rfl, (fun h => by cases h), hb1'.out _⟩
              · have hq2 : ((i : Int) == (l.length : Int) - 1) = false := by rw [beq_eq_false_iff_ne]; omega
                have HL := Lib.hid hlast
                clear hlast
                go_wp2_with fail
                exact ⟨⟨k + 1, by omega, by go_num, fun j hj hjk => by
                  rcases Nat.lt_or_ge j k with h | h
                  · exact HE.out j hj h
                  · obtain rfl : j = k := by omega
                    exact .inr ⟨H46.out, HL.out⟩⟩, by simp [intOf]; omega⟩
            · have hq : ((x[k].toNat : Int) != 46) = true := by
                rw [bne_iff_ne]
                intro h
                exact h46 (UInt8.toNat_inj.1 (by simpa using Int.ofNat_inj.1 h))
              clear h46
              go_wp2_with fail
              go_ret
              exact ⟨false, rfl, (fun h => by cases h), hb1'.out _⟩
          · have HW := Lib.hid hw
            clear hw
            go_wp2_with fail
            exact ⟨⟨k + 1, by omega, by go_num, fun j hj hjk => by
              rcases Nat.lt_or_ge j k with h | h
              · exact HE.out j hj h
              · obtain rfl : j = k := by omega
                exact .inl HW.out⟩, by simp [intOf]; omega⟩
        · have HE2 : Hid (elOk l i x x.size) := Lib.hid (fun j hj _ => HE.out j hj (by omega))
          by_cases hx0 : x.size = 0
          · have hq : x.toList.isEmpty = true := by
              rw [ByteArray.toList_eq]
              have : x.data.toList.length = 0 := by simpa using hx0
              rw [List.eq_nil_of_length_eq_zero this]
              rfl
            clear hx0
            go_wp2_with fail
            go_ret
            exact ⟨false, rfl, (fun h => by cases h), hb1'.out _⟩
          · have hq : x.toList.isEmpty = false := by
              rw [ByteArray.toList_eq]
              cases h : x.data.toList with
              | nil =>
                exfalso
                apply hx0
                have := congrArg List.length h
                simpa using this
              | cons a b => rfl
            have HX0 := Lib.hid hx0
            clear hx0
            go_wp2_with fail
            exact ⟨⟨i + 1, by omega, by go_num, fun j hj hjk => by
              rcases Nat.lt_or_ge j i with h | h
              · exact HA.out j hj h
              · obtain rfl : j = i := by omega
                rw [HX.out]
                exact ⟨Nat.pos_of_ne_zero HX0.out, HE2.out⟩⟩, by simp [intOf]; omega⟩
    · have HA2 := Lib.hid (fun j (hj : j < l.length) => HA.out j hj (by omega))
      by_cases hl0 : 0 < l.length
      · go_wp2_with fail
        refine (word_any _ _ H.B).mono ?_
        rintro e w' ⟨rfl, rfl⟩
        cases hwB : isWord B
        · go_wp2_with fail
          go_ret
          exact ⟨false, rfl, (fun h => by cases h), hb1'.out _⟩
        · have HB := Lib.hid hwB
          clear hwB
          by_cases hT0 : T.size = 0
          · have hq : T.toList.isEmpty = true := by
              rw [ByteArray.toList_eq]
              have : T.data.toList.length = 0 := by simpa using hT0
              rw [List.eq_nil_of_length_eq_zero this]
              rfl
            have HT := Lib.hid hT0
            clear hT0
            go_wp2_with fail
            go_ret
            exact ⟨true, rfl, fun _ => ⟨hl0, HA2.out, HB.out, .inl HT.out⟩, hb1'.out _⟩
          · have hq : T.toList.isEmpty = false := by
              rw [ByteArray.toList_eq]
              cases h : T.data.toList with
              | nil =>
                exfalso
                apply hT0
                have := congrArg List.length h
                simpa using this
              | cons a b => rfl
            clear hT0
            go_wp2_with fail
            refine (word_any _ _ H.T).mono ?_
            rintro e w' ⟨rfl, rfl⟩
            cases hwT : isWord T
            · go_wp2_with fail
              go_ret
              exact ⟨false, rfl, (fun h => by cases h), hb1'.out _⟩
            · have HT := Lib.hid hwT
              clear hwT
              go_wp2_with fail
              go_ret
              exact ⟨true, rfl, fun _ => ⟨hl0, HA2.out, HB.out, .inr HT.out⟩, hb1'.out _⟩
      · go_wp2_with fail
        go_ret
        exact ⟨false, rfl, (fun h => by cases h), hb1'.out _⟩


/-- the package of a name, up to an element -/
def pkTo (l : List ByteArray) : Nat → ByteArray
  | 0 => ByteArray.empty
  | k + 1 => (if 0 < k then pkTo l k ++ ⟨#[47]⟩ else pkTo l k) ++ l.getD k ByteArray.empty

theorem pkTo_size (l : List ByteArray) (h : ∀ k (h : k < l.length), l[k].size ≤ 2147483647) (k : Nat) (hk : k ≤ l.length) : (pkTo l k).size ≤ k * 2147483648 := by
  induction k with
  | zero => simp [pkTo]
  | succ k ih =>
    have := ih (by omega)
    have h2 : (l.getD k ByteArray.empty).size ≤ 2147483647 := by
      simp only [List.getD, List.getElem?_eq_getElem (show k < l.length by omega), Option.getD_some]
      exact h k (by omega)
    have h1 : (ByteArray.mk #[47]).size = 1 := rfl
    simp only [pkTo]
    split <;> simp only [ByteArray.size_append] <;> omega

set_option maxHeartbeats 400000 in
theorem package_any (A : Option Addr) (c : Nat) (l : List ByteArray) (T B : ByteArray) (p : Bool) (Bd : Nat) (w : World) (H : NamedOk w Bd A l T B) (hfit : fits4 l = true) :
    Calls Try.prog 9 #[.agg #[.slice A l.length c, .string T, .bool p, .string B]] w fun e w' => e = .returned (.string (pkTo l l.length)) ∧ Below w.heap.size w w' := by
  have hl := H.len
  unfold maxLen at hl
  have hl2 := fits4_len hfit
  have hsz := fits4_el hfit
  have hpk := fun k hk => pkTo_size l hsz k hk
  have HP := Lib.hid hpk
  have HS := Lib.hid hsz
  clear hpk hsz
  have hb1 : ∀ o, Below w.heap.size w (w.alloc o) := fun o => (Below.refl _ _).alloc (Nat.le_refl _) o
  have HH : ∀ o, NamedOk (w.alloc o) Bd A l T B := fun o => H.keep ((hb1 o).mono H.bd)
  have HH' := Lib.hid HH
  have hb1' := Lib.hid hb1
  have HF := Lib.hid hfit
  clear HH hb1 hfit
  go_enter Try.func9, Try.ntmps9
  go_wp2_with fail
  go_loop [3, 9] (fun o i => ∃ k : Nat, k ≤ l.length ∧ i = .int .i64 k ∧ o = .string (pkTo l k)) (fun _ i => l.length - (intOf i).toNat)
  case atStart => exact ⟨0, Nat.zero_le _, rfl, rfl⟩
  case round =>
    obtain ⟨k, hi, rfl, rfl⟩ := hrel
    by_cases hlt : k < l.length
    · have hszk := HS.out k hlt
      have hpkk := HP.out k (by omega)
      obtain ⟨b, off, rfl, hbB, hc⟩ := (HH'.out (.cells #[.slice A l.length c, .string T, .bool p, .string B] 24)).sl k hlt
      have hstep : pkTo l (k + 1) = (if 0 < k then pkTo l k ++ ⟨#[47]⟩ else pkTo l k) ++ l[k] := by
        simp [pkTo, List.getD, hlt]
      have HST := Lib.hid hstep
      clear hstep
      generalize l[k] = x at *
      generalize pkTo l k = y at *
      have h1 : (ByteArray.mk #[47]).size = 1 := rfl
      have hb2 : k * 2147483648 ≤ 2147483647 * 2147483648 := Nat.mul_le_mul_right _ (by omega)
      by_cases hk0 : 0 < k
      · rw [if_pos hk0] at HST
        go_wp2_with fail
        exact ⟨⟨k + 1, by omega, by go_num, by rw [HST.out]⟩, by simp [intOf]; omega⟩
      · rw [if_neg hk0] at HST
        go_wp2_with fail
        exact ⟨⟨k + 1, by omega, by go_num, by rw [HST.out]⟩, by simp [intOf]; omega⟩
    · obtain rfl : k = l.length := by omega
      go_wp2_with fail
      go_ret
      exact ⟨rfl, hb1'.out _⟩

def recvOf (T : ByteArray) (p : Bool) : ByteArray := if T.size ≠ 0 ∧ p = true then ⟨#[40, 42]⟩ ++ T ++ ⟨#[41]⟩ else T

theorem isEmpty_true {T : ByteArray} (h : T.size = 0) : T.toList.isEmpty = true := by
  rw [ByteArray.toList_eq]
  have : T.data.toList.length = 0 := by simpa using h
  rw [List.eq_nil_of_length_eq_zero this]
  rfl
theorem isEmpty_false {x : ByteArray} (hx0 : x.size ≠ 0) : x.toList.isEmpty = false := by
  rw [ByteArray.toList_eq]
  cases h : x.data.toList with
  | nil =>
    exfalso
    apply hx0
    have := congrArg List.length h
    simpa using this
  | cons a b => rfl

set_option maxHeartbeats 400000 in
theorem receiver_any (A : Option Addr) (c : Nat) (l : List ByteArray) (T B : ByteArray) (p : Bool) (w : World) (hT : T.size ≤ 2147483647) :
    Calls Try.prog 10 #[.agg #[.slice A l.length c, .string T, .bool p, .string B]] w fun e w' => e = .returned (.string (recvOf T p)) ∧ Below w.heap.size w w' := by
  have hb1 : ∀ o, Below w.heap.size w (w.alloc o) := fun o => (Below.refl _ _).alloc (Nat.le_refl _) o
  have hb1' := Lib.hid hb1
  clear hb1
  have h1 : (ByteArray.mk #[40, 42]).size = 2 := rfl
  have h2 : (ByteArray.mk #[41]).size = 1 := rfl
  by_cases hT0 : T.size = 0
  · have hq := isEmpty_true hT0
    have HR : Hid (recvOf T p = T) := Lib.hid (by unfold recvOf; rw [if_neg (by simp [hT0])])
    clear hT0
    go_enter Try.func10, Try.ntmps10
    go_wp2_with fail
    go_ret
    exact ⟨by rw [HR.out]; rfl, hb1'.out _⟩
  · have hq := isEmpty_false hT0
    cases p
    · have HR : Hid (recvOf T false = T) := Lib.hid (by unfold recvOf; rw [if_neg (by simp)])
      clear hT0
      go_enter Try.func10, Try.ntmps10
      go_wp2_with fail
      go_ret
      exact ⟨by rw [HR.out]; rfl, hb1'.out _⟩
    · have HR : Hid (recvOf T true = ⟨#[40, 42]⟩ ++ T ++ ⟨#[41]⟩) := Lib.hid (by unfold recvOf; rw [if_pos ⟨hT0, rfl⟩])
      clear hT0
      go_enter Try.func10, Try.ntmps10
      go_wp2_with fail
      go_ret
      exact ⟨by rw [HR.out]; rfl, hb1'.out _⟩

def strOf (l : List ByteArray) (T : ByteArray) (p : Bool) (B : ByteArray) : ByteArray :=
  if T.size = 0 then pkTo l l.length ++ ⟨#[46]⟩ ++ B else pkTo l l.length ++ ⟨#[46]⟩ ++ recvOf T p ++ ⟨#[46]⟩ ++ B


theorem bcell {W w1 : World} (hb : Below W.heap.size W w1) : (∀ b o, b < W.heap.size → w1.cell? ⟨b, o, none⟩ = W.cell? ⟨b, o, none⟩) ∧ (∀ b o, b < W.heap.size → w1.frozen? ⟨b, o, none⟩ = W.frozen? ⟨b, o, none⟩) :=
  ⟨fun b o h => hb.cell (p := ⟨b, o, none⟩) h, fun b o h => hb.frozen (p := ⟨b, o, none⟩) h⟩
theorem NamedOk.drew {w : World} {Bd : Nat} {A : Option Addr} {l : List ByteArray} {T B : ByteArray} (h : NamedOk w Bd A l T B) : NamedOk w.drew Bd A l T B :=
  ⟨h.len, h.els, h.T, h.B, h.sl, h.bd⟩

set_option maxHeartbeats 2000000 in
theorem string_any (A : Option Addr) (c : Nat) (l : List ByteArray) (T B : ByteArray) (p : Bool) (Bd : Nat) (w : World) (H : NamedOk w Bd A l T B) (hfit : fits4 l = true) (hT : T.size ≤ 2147483647) (hB : B.size ≤ 2147483647) :
    Calls Try.prog 8 #[.agg #[.slice A l.length c, .string T, .bool p, .string B]] w fun e w' => e = .returned (.string (strOf l T p B)) ∧ Below w.heap.size w w' := by
  have hb1 : ∀ o, Below w.heap.size w (w.alloc o) := fun o => (Below.refl _ _).alloc (Nat.le_refl _) o
  have HH : ∀ o, NamedOk (w.alloc o).drew Bd A l T B := fun o => (H.keep ((hb1 o).mono H.bd)).drew
  have HH' := Lib.hid HH
  have hb1' := Lib.hid hb1
  have hl2 := fits4_len hfit
  have hpk := pkTo_size l (fits4_el hfit) l.length (Nat.le_refl _)
  have hpk2 : l.length * 2147483648 ≤ 2147483647 * 2147483648 := Nat.mul_le_mul_right _ (by omega)
  have h1 : (ByteArray.mk #[46]).size = 1 := rfl
  clear HH hb1
  by_cases hT0 : T.size = 0
  · have hq := isEmpty_true hT0
    have HR : Hid (strOf l T p B = pkTo l l.length ++ ⟨#[46]⟩ ++ B) := Lib.hid (by unfold strOf; rw [if_pos hT0])
    have hp := fun W hW => package_any A c l T B p Bd W hW hfit
    have HP := Lib.hid hp
    clear hT0 hp
    generalize pkTo l l.length = P at *
    have o1 : ¬ (9223372036854775807 < P.size + 1) := by omega
    have o2 : ¬ (9223372036854775807 < P.size + 1 + B.size) := by omega
    go_enter Try.func8, Try.ntmps8
    go_wp2_with fail
    go_region_held3 (fun w' => w'.cell? ⟨w.heap.size, 0, none⟩ = some (.slice A l.length c) ∧ w'.cell? ⟨w.heap.size, 1, none⟩ = some (.string T) ∧ w'.cell? ⟨w.heap.size, 2, none⟩ = some (.bool p) ∧ w'.cell? ⟨w.heap.size, 3, none⟩ = some (.string B))
      (first | go_keep)
      (first | (go_at_call 9; refine (HP.out _ (HH'.out _)).mono ?_; rintro e w2 ⟨rfl, hb2⟩; have hc2 := (bcell hb2).1))
    go_wp2_with fail
    go_ret
    refine ⟨by rw [HR.out]; rfl, ?_⟩
    exact (((Below.refl _ _).alloc (Nat.le_refl _) _).drew).trans (hb2.mono (by simp))
  · have hq := isEmpty_false hT0
    have HR : Hid (strOf l T p B = pkTo l l.length ++ ⟨#[46]⟩ ++ recvOf T p ++ ⟨#[46]⟩ ++ B) := Lib.hid (by unfold strOf; rw [if_neg hT0])
    have hp := fun W hW => package_any A c l T B p Bd W hW hfit
    have hr := fun W => receiver_any A c l T B p W hT
    have hrs : (recvOf T p).size ≤ T.size + 3 := by
      unfold recvOf
      have e1 : (ByteArray.mk #[40, 42]).size = 2 := rfl
      have e2 : (ByteArray.mk #[41]).size = 1 := rfl
      split
      · simp only [ByteArray.size_append]; omega
      · omega
    have HP := Lib.hid hp
    have HRc := Lib.hid hr
    clear hT0 hp hr
    generalize pkTo l l.length = P at *
    generalize recvOf T p = R at *
    have o1 : ¬ (9223372036854775807 < P.size + 1) := by omega
    have o2 : ¬ (9223372036854775807 < P.size + 1 + R.size) := by omega
    have o3 : ¬ (9223372036854775807 < P.size + 1 + R.size + 1) := by omega
    have o4 : ¬ (9223372036854775807 < P.size + 1 + R.size + 1 + B.size) := by omega
    go_enter Try.func8, Try.ntmps8
    go_wp2_with fail
    go_region_held3 (fun w' => w'.cell? ⟨w.heap.size, 0, none⟩ = some (.slice A l.length c) ∧ w'.cell? ⟨w.heap.size, 1, none⟩ = some (.string T) ∧ w'.cell? ⟨w.heap.size, 2, none⟩ = some (.bool p) ∧ w'.cell? ⟨w.heap.size, 3, none⟩ = some (.string B))
      (first | go_keep)
      (first | (go_at_call 9; refine (HP.out _ (HH'.out _)).mono ?_; rintro e w2 ⟨rfl, hb2⟩; have hc2 := (bcell hb2).1; have hz2 : w.heap.size < w2.heap.size := (by have := hb2.size; simp at this; omega)) | (go_at_call 10; refine (HRc.out _).mono ?_; rintro e w3 ⟨rfl, hb3⟩; have hc3 := (bcell hb3).1))
    go_wp2_with fail
    go_ret
    refine ⟨by rw [HR.out]; rfl, ?_⟩
    exact ((((Below.refl _ _).alloc (Nat.le_refl _) _).drew).trans (hb2.mono (by simp))).trans (hb3.mono (by omega))
end Go.Proofs.Ytomdkgibigfhlaa
