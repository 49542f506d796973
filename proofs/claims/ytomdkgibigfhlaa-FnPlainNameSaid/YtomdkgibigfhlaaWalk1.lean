/-
  The walks through the small functions that take a name apart, each for every string.
-/
import Derived.Test.YtomdkgibigfhlaaRows
import Derived.WalkKit
import Derived.WalkSpells
import Derived.Lib.Hide
import Derived.Lib.ConvBytes
import Derived.Laws.IdiomStrings
import Derived.WalkLawsBesides
namespace Go.Proofs.Ytomdkgibigfhlaa
open Go.RowKit

def wc (b : UInt8) : Bool := decide ((97 ≤ b.toNat ∧ b.toNat ≤ 122) ∨ (65 ≤ b.toNat ∧ b.toNat ≤ 90) ∨ (48 ≤ b.toNat ∧ b.toNat ≤ 57) ∨ b.toNat = 95)
def isWord (s : ByteArray) : Bool := s.data.toList.all wc && !s.data.toList.isEmpty
theorem isWord_no (s : ByteArray) (k : Nat) (h : k < s.size) (hw : wc s[k] = false) : isWord s = false := by
  unfold isWord
  rw [Bool.and_eq_false_iff]
  left
  rw [List.all_eq_false]
  exact ⟨s[k], Array.getElem_mem_toList _, by simp [hw]⟩
theorem isWord_all (s : ByteArray) (h : ∀ j (h : j < s.size), wc s[j] = true) : isWord s = !s.data.toList.isEmpty := by
  unfold isWord
  have : s.data.toList.all wc = true := by
    rw [List.all_eq_true]
    intro x hx
    obtain ⟨i, hi, rfl⟩ := List.getElem_of_mem hx
    have hi' : i < s.size := by simpa using hi
    exact h i hi'
  rw [this, Bool.true_and]

set_option maxHeartbeats 400000 in
theorem word_any (s : ByteArray) (w : World) (hs : s.size ≤ maxLen) :
    Calls Try.prog 13 #[.string s] w fun e w' => e = .returned (.bool (isWord s)) ∧ w = w' := by
  unfold maxLen at hs
  go_enter Try.func13, Try.ntmps13
  go_wp2
  go_loop [3] (fun i => ∃ k : Nat, k ≤ s.size ∧ i = .int .i64 k ∧ (∀ j (h : j < s.size), j < k → wc s[j] = true)) (fun i => s.size - (intOf i).toNat)
  case atStart => exact ⟨0, Nat.zero_le _, rfl, fun j _ h => absurd h (by omega)⟩
  case round =>
    obtain ⟨k, hk, rfl, hall⟩ := hrel
    have HA := Lib.hid hall
    clear hall
    by_cases hlt : k < s.size
    · cases hw : wc s[k]
      · have hf := Lib.hid (isWord_no s k hlt hw)
        have hx : ¬ ((97 ≤ s[k].toNat ∧ s[k].toNat ≤ 122) ∨ (65 ≤ s[k].toNat ∧ s[k].toNat ≤ 90) ∨ (48 ≤ s[k].toNat ∧ s[k].toNat ≤ 57) ∨ s[k].toNat = 95) := by
          unfold wc at hw
          exact of_decide_eq_false hw
        have hq : ((s[k].toNat : Int) == 95) = false := by rw [beq_eq_false_iff_ne]; omega
        clear hw
        go_wp2
        all_goals first
          | (exfalso; simp only [Bool.not_eq_true', Bool.not_eq_false', decide_eq_false_iff_not, decide_eq_true_eq, beq_eq_false_iff_ne, ne_eq] at *; omega)
          | (go_ret; exact ⟨by rw [hf.out]; rfl, rfl⟩)
      · have hx : ((97 ≤ s[k].toNat ∧ s[k].toNat ≤ 122) ∨ (65 ≤ s[k].toNat ∧ s[k].toNat ≤ 90) ∨ (48 ≤ s[k].toNat ∧ s[k].toNat ≤ 57) ∨ s[k].toNat = 95) := by
          unfold wc at hw
          exact of_decide_eq_true hw
        have HW := Lib.hid hw
        clear hw
        go_wp2
        all_goals first
          | exact ⟨⟨k + 1, by omega, by go_num, fun j hj hjk => by
              rcases Nat.lt_or_ge j k with h | h
              · exact HA.out j hj h
              · obtain rfl : j = k := by omega
                exact HW.out⟩, by simp [intOf]; omega⟩
          | (exfalso; simp only [Bool.not_eq_true', decide_eq_false_iff_not, beq_eq_false_iff_ne, ne_eq] at *; omega)
    · go_wp2
      go_ret
      refine ⟨?_, rfl⟩
      rw [isWord_all s (fun j hj => HA.out j hj (by omega))]
      simp [ByteArray.toList_eq]

theorem bw_below (w : World) (e : TypeId) (s : ByteArray) : Below w.heap.size w (Lib.bytesWorld w e s) :=
  ⟨by rfl, by rfl, by rfl, by rw [Lib.bytesWorld_size]; exact Nat.le_succ _, fun k hk => Lib.bytesWorld_at_old w e s k hk⟩

set_option maxHeartbeats 400000 in
theorem inst_any (s : ByteArray) (b : Nat) (w : World) (hs : s.size ≤ maxLen) (hc : w.cell? ⟨b, 2, none⟩ = some (.string s)) 
   (hnb : ∀ k (h : k < s.size), s[k] ≠ 91 ∧ s[k] ≠ 93) :
    Calls Try.prog 18 #[.pointer (some ⟨b, 0, none⟩)] w fun e w' => e = .returned (.string s) ∧ Below w.heap.size w w' := by
  unfold maxLen at hs
  have hb := bw_below w 5 s
  have hcv := Lib.run_convert_string_bytes (P := Try.prog) w 9 40 5 s Try.underlying9 Try.underlying40 Try.underlying5
  have hcell := fun j hj => Lib.bytesWorld_cell w 5 s j hj
  generalize Lib.bytesWorld w 5 s = w1 at *
  generalize grownCap w s.size 0 5 = c at *
  have hcb : (convert 40 9 (.slice (some ⟨w.heap.size, 0, none⟩) s.size c)).run Try.prog w1 = .ok (.string s) w1 := by
    have := run_convert_bytes_back (P := Try.prog) w1 40 9 5 ⟨w.heap.size, 0, none⟩ c s.data.toList Try.underlying40 Try.underlying5 Try.underlying9 (by
      intro j hj
      rw [Addr.add_lit, Nat.zero_add, hcell j (by simpa using hj)]
      simp [List.getD, List.getElem?_eq_getElem hj])
    simpa using this
  have HC := Lib.hid hcell
  have HN := Lib.hid hnb
  clear hcell hnb
  go_enter Try.func18, Try.ntmps18
  go_wp2
  go_loop [3, 14] (fun n i => ∃ k : Nat, k ≤ s.size ∧ i = .int .i64 k ∧ n = .int .i64 0) (fun _ i => s.size - (intOf i).toNat)
  case atStart => exact ⟨0, Nat.zero_le _, rfl, rfl⟩
  case round =>
    obtain ⟨k, hk, rfl, rfl⟩ := hrel
    by_cases hlt : k < s.size
    · have hck := HC.out k hlt
      have hkb := HN.out k hlt
      have hgd : s.data.toList.getD k 0 = s[k] := by simp [List.getD, hlt]; rfl
      have h91 : (((s.data.toList.getD k 0).toNat : Int) == 91) = false := by
        rw [hgd, beq_eq_false_iff_ne]
        intro h
        exact hkb.1 (UInt8.toNat_inj.1 (by simpa using Int.ofNat_inj.1 h))
      have h93 : (((s.data.toList.getD k 0).toNat : Int) == 93) = false := by
        rw [hgd, beq_eq_false_iff_ne]
        intro h
        exact hkb.2 (UInt8.toNat_inj.1 (by simpa using Int.ofNat_inj.1 h))
      clear hkb hgd
      generalize (s.data.toList.getD k 0).toNat = x at *
      go_wp2
      exact ⟨⟨k + 1, by omega, by go_num, rfl⟩, by simp [intOf]; omega⟩
    · go_wp2
      go_ret
      exact ⟨rfl, hb⟩

/-- the last place of a byte -/
structure LastAt (s : ByteArray) (c : UInt8) (r : Int) : Prop where
  at_ : r = -1 ∨ ∃ k : Nat, ∃ h : k < s.size, r = k ∧ s[k] = c
  none_ : ∀ j (h : j < s.size), r < j → s[j] ≠ c

set_option maxHeartbeats 400000 in
theorem lastb_any (s : ByteArray) (c : UInt8) (r : Int) (w : World) (hs : s.size ≤ maxLen) (H : LastAt s c r) :
    Calls Try.prog 23 #[.string s, .int .u8 c.toNat] w fun e w' => e = .returned (.int .i64 r) ∧ w = w' := by
  unfold maxLen at hs
  have hn1 : -9223372036854775808 ≤ (s.size : Int) - 1 := by omega
  go_enter Try.func23, Try.ntmps23
  go_wp2
  go_loop [5] (fun i => ∃ k : Int, -1 ≤ k ∧ k < s.size ∧ r ≤ k ∧ i = .int .i64 k) (fun i => (intOf i + 1).toNat)
  case atStart =>
    refine ⟨(s.size : Int) - 1, by omega, by omega, ?_, rfl⟩
    rcases H.at_ with h | ⟨k, h, h1, h2⟩ <;> omega
  case round =>
    obtain ⟨k, hk0, hk1, hr, rfl⟩ := hrel
    by_cases hlt : 0 ≤ k
    · obtain ⟨n, rfl⟩ := Int.eq_ofNat_of_zero_le hlt
      have hn : n < s.size := by omega
      by_cases e : r = n
      · have hc : s[n] = c := by
          rcases H.at_ with h | ⟨k, h, h1, h2⟩
          · omega
          · obtain rfl : k = n := by omega
            exact h2
        have hq : ((s[n].toNat : Int) == c.toNat) = true := by rw [hc]; simp
        subst e
        clear hc
        go_wp2
        go_ret
        exact ⟨rfl, rfl⟩
      · have hq : ((s[n].toNat : Int) == c.toNat) = false := by
          have h1 := H.none_ n hn (by omega)
          rw [beq_eq_false_iff_ne]
          intro h
          apply h1
          apply UInt8.toNat_inj.1
          omega
        go_wp2
        go_round
        case rel => exact ⟨(n : Int) - 1, by omega, by omega, by omega, rfl⟩
        case measure => simp [intOf]
    · have : r = -1 := by
        rcases H.at_ with h | ⟨k, h, h1, h2⟩ <;> omega
      subst this
      go_wp2
      go_ret
      exact ⟨rfl, rfl⟩

set_option maxHeartbeats 400000 in
theorem lastIndex_any (s : ByteArray) (c : UInt8) (r : Int) (w : World) (hs : s.size ≤ maxLen) (H : LastAt s c r) :
    Calls Try.prog 20 #[.string s, .string ⟨#[c]⟩] w fun e w' => e = .returned (.int .i64 r) ∧ w = w' := by
  unfold maxLen at hs
  have e1 : (ByteArray.mk #[c]).size = 1 := rfl
  go_enter Try.func20, Try.ntmps20
  go_wp2_with fail
  refine (lastb_any s c r _ hs H).mono ?_
  rintro e w' ⟨rfl, rfl⟩
  go_wp2_with fail
  go_ret
  exact ⟨rfl, rfl⟩

/-- the first place of a byte -/
structure FirstAt (s : ByteArray) (c : UInt8) (r : Int) : Prop where
  at_ : r = -1 ∨ ∃ k : Nat, ∃ h : k < s.size, r = k ∧ s[k] = c
  none_ : ∀ j (h : j < s.size), r = -1 ∨ (j : Int) < r → s[j] ≠ c

theorem ext_all (s : ByteArray) : s.extract 0 s.size = s := by
  apply ByteArray.ext
  simp

theorem ext1 (s : ByteArray) (k : Nat) (h : k < s.size) : s.extract k (k+1) = ⟨#[s[k]]⟩ := by
  apply ByteArray.ext
  apply Array.ext
  · simp; omega
  · intro i h1 h2
    simp at h2
    subst h2
    simp; rfl

set_option maxHeartbeats 400000 in
theorem zzIndex_any (s : ByteArray) (c : UInt8) (r : Int) (w : World) (hs : s.size < maxLen) (H : FirstAt s c r) :
    Calls Try.prog 21 #[.string s, .string ⟨#[c]⟩] w fun e w' => e = .returned (.int .i64 r) ∧ w = w' := by
  unfold maxLen at hs
  have e1 : (ByteArray.mk #[c]).size = 1 := rfl
  go_enter Try.func21, Try.ntmps21
  go_wp2
  go_loop [5] (fun i => ∃ k : Nat, k ≤ s.size ∧ (r = -1 ∨ (k : Int) ≤ r) ∧ i = .int .i64 k) (fun i => s.size - (intOf i).toNat)
  case atStart => exact ⟨0, by omega, by rcases H.at_ with h | ⟨k, h, h1, h2⟩ <;> omega, rfl⟩
  case round =>
    obtain ⟨n, hk0, hr, rfl⟩ := hrel
    by_cases hn : n < s.size
    · have he := ext1 s n hn
      by_cases e : r = n
      · have hc : s[n] = c := by
          rcases H.at_ with h | ⟨k, h, h1, h2⟩
          · omega
          · obtain rfl : k = n := by omega
            exact h2
        rw [hc] at he
        subst e
        clear hc
        go_wp2
        go_ret
        exact ⟨rfl, rfl⟩
      · have hq : s[n] ≠ c := H.none_ n hn (by omega)
        have hq2 : (s[n] == c) = false := by simpa using hq
        go_wp2
        exact ⟨⟨n + 1, by omega, by omega, by go_num⟩, by simp [intOf]; omega⟩
    · have : r = -1 := by
        rcases H.at_ with h | ⟨k, h, h1, h2⟩ <;> omega
      subst this
      go_wp2
      go_ret
      exact ⟨rfl, rfl⟩

theorem ne_list {a b : ByteArray} (h : a ≠ b) : ¬ a.toList = b.toList := by
  rw [ByteArray.toList_eq, ByteArray.toList_eq]
  intro e
  apply h
  apply ByteArray.ext
  exact Array.toList_inj.1 e

set_option maxHeartbeats 400000 in
theorem hasPrefix0 (s p : ByteArray) (w : World) (_hs : s.size ≤ maxLen) (_hp : p.size ≤ maxLen) (H : s.extract 0 p.size ≠ p) :
    Calls Try.prog 22 #[.string s, .string p] w fun e w' => e = .returned (.bool false) ∧ w = w' := by
  unfold maxLen at _hs _hp
  by_cases h : p.size ≤ s.size
  · have hq := ne_list H
    go_enter Try.func22, Try.ntmps22
    go_wp2
    go_ret
    exact ⟨by simp [hq], rfl⟩
  · go_enter Try.func22, Try.ntmps22
    go_wp2
    go_ret
    exact ⟨rfl, rfl⟩

theorem hasPrefix_any (s p : ByteArray) (w : World) (_hs : s.size ≤ maxLen) (_hp : p.size ≤ maxLen) (H : s.extract 0 p.size ≠ p) :
    Calls Try.prog 19 #[.string s, .string p] w fun e w' => e = .returned (.bool false) ∧ w = w' := by
  go_enter Try.func19, Try.ntmps19
  go_wp2_with fail
  refine (hasPrefix0 s p _ _hs _hp H).mono ?_
  rintro e w' ⟨rfl, rfl⟩
  go_wp2_with fail
  go_ret
  exact ⟨rfl, rfl⟩

def noB (s : ByteArray) (c : UInt8) : Prop := ∀ k (h : k < s.size), s[k] ≠ c

theorem no_prefix (s : ByteArray) (p : ByteArray) (h : noB s 58) (j : Nat) (hj : j < p.size) (hp : p[j] = 58) : s.extract 0 p.size ≠ p := by
  intro e
  have h1 : p.size ≤ s.size := by
    have := congrArg ByteArray.size e
    simp only [ByteArray.size_extract] at this
    omega
  apply h j (by omega)
  rw [← hp]
  have h2 : j < (s.extract 0 p.size).size := by simp only [ByteArray.size_extract]; omega
  have h3 : (s.extract 0 p.size)[j] = p[j] := by simp only [e]
  rw [← h3, ByteArray.getElem_extract]
  simp

/-- what is known of a symbol in memory -/
structure SymAt (w : World) (b : Nat) (s : ByteArray) : Prop where
  lt : b < w.heap.size
  nm : w.cell? ⟨b, 2, none⟩ = some (.string s)
  ver : w.cell? ⟨b, 5, none⟩ = some (.int .i64 5)

theorem SymAt.keep {w w' : World} {b : Nat} {s : ByteArray} (h : SymAt w b s) (hb : Below w.heap.size w w') : SymAt w' b s :=
  ⟨Nat.lt_of_lt_of_le h.lt hb.size, (hb.cell (p := ⟨b, 2, none⟩) h.lt).trans h.nm, (hb.cell (p := ⟨b, 5, none⟩) h.lt).trans h.ver⟩

set_option maxHeartbeats 800000 in
theorem packageName_any (s : ByteArray) (b : Nat) (r : Int) (i : Int) (out : ByteArray) (w : World) (hs : s.size < maxLen) (hsym : SymAt w b s) (hnb : ∀ k (h : k < s.size), s[k] ≠ 91 ∧ s[k] ≠ 93) (hcol : noB s 58)
    (hr : LastAt s 47 r) (hi : FirstAt (s.extract (max r 0).toNat s.size) 46 i)
    (ho : (i = -1 ∧ out = ByteArray.empty) ∨ (0 ≤ i ∧ out = s.extract 0 ((max r 0).toNat + i.toNat))) :
    Calls Try.prog 15 #[.pointer (some ⟨b, 0, none⟩)] w fun e w' => e = .returned (.string out) ∧ Below w.heap.size w w' := by
  have hs' := hs
  unfold maxLen at hs
  have hver := hsym.ver
  have hnm := hsym.nm
  go_enter Try.func15, Try.ntmps15
  go_wp2_with fail
  refine (inst_any s b _ (by unfold maxLen; omega) hsym.nm hnb).mono ?_
  rintro e w1 ⟨rfl, hb1⟩
  have hs1 := hsym.keep hb1
  have hver1 := hs1.ver
  have hnm1 := hs1.nm
  have p1 := no_prefix s ⟨#[103, 111, 58]⟩ hcol 2 (by decide) rfl
  have p2 := no_prefix s ⟨#[116, 121, 112, 101, 58]⟩ hcol 4 (by decide) rfl
  go_wp2_with fail
  refine (hasPrefix_any s _ _ (by omega) (by decide) p1).mono ?_
  rintro e w' ⟨rfl, rfl⟩
  go_wp2_with fail
  refine (hasPrefix_any s _ _ (by omega) (by decide) p2).mono ?_
  rintro e w' ⟨rfl, rfl⟩
  go_wp2_with fail
  refine (lastIndex_any s 47 r _ (by omega) hr).mono ?_
  rintro e w' ⟨rfl, rfl⟩
  rcases hr.at_ with hr0 | ⟨k, hk, hrk, _⟩
  · subst hr0
    have h0 : (max (-1 : Int) 0).toNat = 0 := by decide
    rw [h0] at hi ho
    rw [ext_all] at hi
    go_wp2_with fail
    refine (zzIndex_any s 46 i _ hs' hi).mono ?_
    rintro e w' ⟨rfl, rfl⟩
    rcases ho with ⟨rfl, rfl⟩ | ⟨hi0, rfl⟩
    · go_wp2_with fail
      go_ret
      exact ⟨rfl, hb1⟩
    · have hi1 : (i != -1) = true := by rw [bne_iff_ne]; omega
      have hi2 : i < s.size := by rcases hi.at_ with h | ⟨k, h, h1, h2⟩ <;> omega
      obtain ⟨n, rfl⟩ := Int.eq_ofNat_of_zero_le hi0
      go_wp2_with fail
      go_ret
      exact ⟨by simp, hb1⟩
  · subst hrk
    go_wp2_with fail
    have e0 : (max (k : Int) 0).toNat = k := by omega
    rw [e0] at hi ho
    refine (zzIndex_any _ 46 i _ (by rw [ByteArray.size_extract]; omega) hi).mono ?_
    rintro e w' ⟨rfl, rfl⟩
    rcases ho with ⟨rfl, rfl⟩ | ⟨hi0, rfl⟩
    · go_wp2_with fail
      go_ret
      exact ⟨rfl, hb1⟩
    · have hi1 : (i != -1) = true := by rw [bne_iff_ne]; omega
      have hi2 : k + i < s.size := by rcases hi.at_ with h | ⟨k', h, h1, h2⟩ <;> (try rw [ByteArray.size_extract] at h) <;> omega
      obtain ⟨n, rfl⟩ := Int.eq_ofNat_of_zero_le hi0
      go_wp2_with fail
      go_ret
      exact ⟨by simp, hb1⟩


theorem lt_of_last {s : ByteArray} {c : UInt8} {r : Int} (h : LastAt s c r) : -1 ≤ r ∧ r < s.size := by
  rcases h.at_ with h | ⟨k, h, h1, h2⟩ <;> omega
theorem lt_of_first {s : ByteArray} {c : UInt8} {r : Int} (h : FirstAt s c r) : -1 ≤ r ∧ r < s.size := by
  rcases h.at_ with h | ⟨k, h, h1, h2⟩ <;> omega


set_option maxHeartbeats 800000 in
/-- one dot or none behind the last slash -/
theorem receiverName_none (s : ByteArray) (b : Nat) (r : Int) (l m : Int) (w : World) (hs : s.size < maxLen) (hsym : SymAt w b s) (hnb : ∀ k (h : k < s.size), s[k] ≠ 91 ∧ s[k] ≠ 93)
    (hr : LastAt s 47 r) (hl : FirstAt (s.extract (max r 0).toNat s.size) 46 l) (hm : LastAt (s.extract (max r 0).toNat s.size) 46 l) (hlm : l = m) :
    Calls Try.prog 16 #[.pointer (some ⟨b, 0, none⟩)] w fun e w' => e = .returned (.string ByteArray.empty) ∧ Below w.heap.size w w' := by
  have hs' := hs
  unfold maxLen at hs
  have hr2 := lt_of_last hr
  go_enter Try.func16, Try.ntmps16
  go_wp2_with fail
  refine (inst_any s b _ (by unfold maxLen; omega) hsym.nm hnb).mono ?_
  rintro e w1 ⟨rfl, hb1⟩
  have hs1 := hsym.keep hb1
  have hnm1 := hs1.nm
  go_wp2_with fail
  refine (lastIndex_any s 47 r _ (by omega) hr).mono ?_
  rintro e w' ⟨rfl, rfl⟩
  rcases hr.at_ with hr0 | ⟨k, hk, hrk, _⟩
  · subst hr0
    have h0 : (max (-1 : Int) 0).toNat = 0 := by decide
    rw [h0, ext_all] at hl hm
    by_cases hl1 : l = -1
    · subst hl1
      go_wp2_with fail
      refine (zzIndex_any _ 46 _ _ hs' hl).mono ?_
      rintro e w' ⟨rfl, rfl⟩
      go_wp2_with fail
      refine (lastIndex_any _ 46 _ _ (by omega) hm).mono ?_
      rintro e w' ⟨rfl, rfl⟩
      go_wp2_with fail
      go_ret
      exact ⟨rfl, hb1⟩
    · have hq : (l == -1) = false := by rw [beq_eq_false_iff_ne]; exact hl1
      go_wp2_with fail
      refine (zzIndex_any _ 46 _ _ hs' hl).mono ?_
      rintro e w' ⟨rfl, rfl⟩
      go_wp2_with fail
      refine (lastIndex_any _ 46 _ _ (by omega) hm).mono ?_
      rintro e w' ⟨rfl, rfl⟩
      go_wp2_with fail
      go_ret
      exact ⟨rfl, hb1⟩
  · subst hrk
    have h0 : (max (k : Int) 0).toNat = k := by omega
    rw [h0] at hl hm
    by_cases hl1 : l = -1
    · subst hl1
      go_wp2_with fail
      refine (zzIndex_any _ 46 _ _ (by rw [ByteArray.size_extract]; omega) hl).mono ?_
      rintro e w' ⟨rfl, rfl⟩
      go_wp2_with fail
      refine (lastIndex_any _ 46 _ _ (by rw [ByteArray.size_extract]; omega) hm).mono ?_
      rintro e w' ⟨rfl, rfl⟩
      go_wp2_with fail
      go_ret
      exact ⟨rfl, hb1⟩
    · have hq : (l == -1) = false := by rw [beq_eq_false_iff_ne]; exact hl1
      go_wp2_with fail
      refine (zzIndex_any _ 46 _ _ (by rw [ByteArray.size_extract]; omega) hl).mono ?_
      rintro e w' ⟨rfl, rfl⟩
      go_wp2_with fail
      refine (lastIndex_any _ 46 _ _ (by rw [ByteArray.size_extract]; omega) hm).mono ?_
      rintro e w' ⟨rfl, rfl⟩
      go_wp2_with fail
      go_ret
      exact ⟨rfl, hb1⟩

set_option maxHeartbeats 800000 in
/-- two dots behind the last slash -/
theorem receiverName_some (s : ByteArray) (b : Nat) (r : Int) (pe l m : Nat) (w : World) (hs : s.size < maxLen) (hsym : SymAt w b s) (hnb : ∀ k (h : k < s.size), s[k] ≠ 91 ∧ s[k] ≠ 93)
    (hr : LastAt s 47 r) (hpe : (max r 0).toNat = pe) (hl : FirstAt (s.extract pe s.size) 46 l) (hm : LastAt (s.extract pe s.size) 46 m) (hlm : l < m) :
    Calls Try.prog 16 #[.pointer (some ⟨b, 0, none⟩)] w fun e w' => e = .returned (.string (s.extract (pe + l + 1) (pe + m))) ∧ Below w.heap.size w w' := by
  have hs' := hs
  unfold maxLen at hs
  have hr2 := lt_of_last hr
  have hm2 := lt_of_last hm
  rw [ByteArray.size_extract] at hm2
  have hm3 : pe + m < s.size := by omega
  clear hm2
  have hq1 : ((l : Int) == -1) = false := by rw [beq_eq_false_iff_ne]; omega
  have hq2 : ((m : Int) == -1) = false := by rw [beq_eq_false_iff_ne]; omega
  have hq3 : ((l : Int) == m) = false := by rw [beq_eq_false_iff_ne]; omega
  have hq4 : (l == m) = false := by rw [beq_eq_false_iff_ne]; omega
  go_enter Try.func16, Try.ntmps16
  go_wp2_with fail
  refine (inst_any s b _ (by unfold maxLen; omega) hsym.nm hnb).mono ?_
  rintro e w1 ⟨rfl, hb1⟩
  have hs1 := hsym.keep hb1
  have hnm1 := hs1.nm
  go_wp2_with fail
  refine (lastIndex_any s 47 r _ (by omega) hr).mono ?_
  rintro e w' ⟨rfl, rfl⟩
  rcases hr.at_ with hr0 | ⟨k, hk, hrk, _⟩
  · subst hr0
    obtain rfl : pe = 0 := by omega
    clear hpe
    rw [ext_all] at hl hm
    go_wp2_with fail
    refine (zzIndex_any _ 46 _ _ hs' hl).mono ?_
    rintro e w' ⟨rfl, rfl⟩
    go_wp2_with fail
    refine (lastIndex_any _ 46 _ _ (by omega) hm).mono ?_
    rintro e w' ⟨rfl, rfl⟩
    go_wp2_with fail
    go_ret
    exact ⟨by simp, hb1⟩
  · subst hrk
    obtain rfl : pe = k := by omega
    clear hpe
    go_wp2_with fail
    refine (zzIndex_any _ 46 _ _ (by rw [ByteArray.size_extract]; omega) hl).mono ?_
    rintro e w' ⟨rfl, rfl⟩
    go_wp2_with fail
    refine (lastIndex_any _ 46 _ _ (by rw [ByteArray.size_extract]; omega) hm).mono ?_
    rintro e w' ⟨rfl, rfl⟩
    go_wp2_with fail
    go_ret
    exact ⟨by simp, hb1⟩

set_option maxHeartbeats 800000 in
theorem baseName_any (s : ByteArray) (b : Nat) (r : Int) (w : World) (hs : s.size < maxLen) (hsym : SymAt w b s) (hnb : ∀ k (h : k < s.size), s[k] ≠ 91 ∧ s[k] ≠ 93)
    (hr : LastAt s 46 r) :
    Calls Try.prog 17 #[.pointer (some ⟨b, 0, none⟩)] w fun e w' => e = .returned (.string (s.extract (r + 1).toNat s.size)) ∧ Below w.heap.size w w' := by
  have hs' := hs
  unfold maxLen at hs
  have hr2 := lt_of_last hr
  go_enter Try.func17, Try.ntmps17
  go_wp2_with fail
  refine (inst_any s b _ (by unfold maxLen; omega) hsym.nm hnb).mono ?_
  rintro e w1 ⟨rfl, hb1⟩
  have hs1 := hsym.keep hb1
  have hnm1 := hs1.nm
  go_wp2_with fail
  refine (lastIndex_any s 46 r _ (by omega) hr).mono ?_
  rintro e w' ⟨rfl, rfl⟩
  rcases hr.at_ with hr0 | ⟨k, hk, hrk, _⟩
  · subst hr0
    have h0 : s.extract (-1 + 1 : Int).toNat s.size = s := ext_all s
    go_wp2_with fail
    go_ret
    exact ⟨by rw [h0]; rfl, hb1⟩
  · subst hrk
    have hq1 : ((k : Int) != -1) = true := by rw [bne_iff_ne]; omega
    go_wp2_with fail
    go_ret
    exact ⟨rfl, hb1⟩

/-- the facts of a name that its three parts are read off -/
structure NameFacts (s : ByteArray) (r : Int) (pe : Nat) : Prop where
  size : s.size < maxLen
  nobr : ∀ k (h : k < s.size), s[k] ≠ 91 ∧ s[k] ≠ 93
  nocol : noB s 58
  slash : LastAt s 47 r
  pe : (max r 0).toNat = pe


end Go.Proofs.Ytomdkgibigfhlaa
