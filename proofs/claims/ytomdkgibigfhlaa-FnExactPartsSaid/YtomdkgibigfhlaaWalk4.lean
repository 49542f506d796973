/-
  The three parts of a name; a text without a package is itself, for every text.
-/
import Derived.Test.YtomdkgibigfhlaaWalk3
namespace Go.Proofs.Ytomdkgibigfhlaa
open Go.RowKit

theorem symAt_new (w : World) (s : ByteArray) (t : TypeId) (a b c d : Value) : SymAt (w.alloc (.cells #[a, b, .string s, c, d, .int .i64 5] t)) w.heap.size s :=
  ⟨by simp, by simp [cell_of_row _ _ 2 _ _ _ (heap_alloc_new w _)], by simp [cell_of_row _ _ 5 _ _ _ (heap_alloc_new w _)]⟩

set_option maxHeartbeats 800000 in
/-- the three parts of a name: one dot or none -/
theorem nameParts_one (s : ByteArray) (r d m : Int) (pe : Nat) (w : World) (H : NameFacts s r pe) (hd1 : FirstAt (s.extract pe s.size) 46 d) (hd2 : LastAt (s.extract pe s.size) 46 d)
    (hd3 : LastAt s 46 m) (out : ByteArray) (ho : (d = -1 ∧ out = ByteArray.empty) ∨ (0 ≤ d ∧ out = s.extract 0 (pe + d.toNat))) :
    Calls Try.prog 14 #[.string s] w fun e w' => e = .returned (.tuple #[.string out, .string ByteArray.empty, .string (s.extract (m + 1).toNat s.size)]) ∧ Below w.heap.size w w' := by
  have hpe := H.pe
  subst hpe
  have hs := H.size
  go_enter Try.func14, Try.ntmps14
  go_wp2_with fail
  refine (packageName_any s _ r d out _ hs (symAt_new _ _ _ _ _ _ _) H.nobr H.nocol H.slash hd1 ho).mono ?_
  rintro e w1 ⟨rfl, hb1⟩
  have s1 := (symAt_new w s 37 (.int .u64 0) (.int .u8 0) (.int .u64 0) (.pointer none)).keep hb1
  go_wp2_with fail
  refine (receiverName_none s _ r d d _ hs s1 H.nobr H.slash hd1 hd2 rfl).mono ?_
  rintro e w2 ⟨rfl, hb2⟩
  have s2 := s1.keep hb2
  go_wp2_with fail
  refine (baseName_any s _ m _ hs s2 H.nobr hd3).mono ?_
  rintro e w3 ⟨rfl, hb3⟩
  go_wp2_with fail
  go_ret3
  have hz1 := hb1.size
  have hz2 := hb2.size
  simp at hz1
  exact ⟨rfl, ((((Below.refl _ _).alloc (Nat.le_refl _) _).trans (hb1.mono (by simp))).trans (hb2.mono (by omega))).trans (hb3.mono (by omega))⟩

set_option maxHeartbeats 800000 in
/-- the three parts of a name: two dots -/
theorem nameParts_two (s : ByteArray) (r : Int) (d m : Nat) (pe : Nat) (w : World) (H : NameFacts s r pe) (hd1 : FirstAt (s.extract pe s.size) 46 d) (hd2 : LastAt (s.extract pe s.size) 46 m) (hdm : d < m)
    (hd3 : LastAt s 46 ((pe + m : Nat) : Int)) :
    Calls Try.prog 14 #[.string s] w fun e w' => e = .returned (.tuple #[.string (s.extract 0 (pe + d)), .string (s.extract (pe + d + 1) (pe + m)), .string (s.extract (pe + m + 1) s.size)]) ∧ Below w.heap.size w w' := by
  have hpe := H.pe
  subst hpe
  have hs := H.size
  go_enter Try.func14, Try.ntmps14
  go_wp2_with fail
  refine (packageName_any s _ r d (s.extract 0 ((max r 0).toNat + d)) _ hs (symAt_new _ _ _ _ _ _ _) H.nobr H.nocol H.slash hd1 (.inr ⟨by omega, rfl⟩)).mono ?_
  rintro e w1 ⟨rfl, hb1⟩
  have s1 := (symAt_new w s 37 (.int .u64 0) (.int .u8 0) (.int .u64 0) (.pointer none)).keep hb1
  go_wp2_with fail
  refine (receiverName_some s _ r _ d m _ hs s1 H.nobr H.slash rfl hd1 hd2 hdm).mono ?_
  rintro e w2 ⟨rfl, hb2⟩
  have s2 := s1.keep hb2
  go_wp2_with fail
  refine (baseName_any s _ _ _ hs s2 H.nobr hd3).mono ?_
  rintro e w3 ⟨rfl, hb3⟩
  go_wp2_with fail
  go_ret3
  have hz1 := hb1.size
  have hz2 := hb2.size
  simp at hz1
  have e4 : (max r 0 + (m : Int) + 1).toNat = (max r 0).toNat + m + 1 := by omega
  refine ⟨?_, ?_⟩
  · show Ending.returned (.tuple #[_, _, .string (s.extract (max r 0 + (m : Int) + 1).toNat s.size)]) = _
    rw [e4]
    rfl
  exact ((((Below.refl _ _).alloc (Nat.le_refl _) _).trans (hb1.mono (by simp))).trans (hb2.mono (by omega))).trans (hb3.mono (by omega))

theorem parts_of (s : ByteArray) (a b c : ByteArray) (w : World) (h : Calls Try.prog 14 #[.string s] w fun e w' => e = .returned (.tuple #[.string a, .string b, .string c]) ∧ Below w.heap.size w w') :
    Calls Try.prog 7 #[.string s] w fun e w' => e = .returned (.tuple #[.string a, .string b, .string c]) ∧ Below w.heap.size w w' := by
  have H := Lib.hid h
  clear h
  go_enter Try.func7, Try.ntmps7
  go_wp2_with fail
  refine H.out.mono ?_
  rintro e w1 ⟨rfl, hb1⟩
  go_wp2_with fail
  go_ret3
  exact ⟨rfl, hb1⟩


/-! ### a text without a package -/
theorem wc_ne {b c : UInt8} (h : wc b = true) (hc : wc c = false) : b ≠ c := fun e => by rw [e, hc] at h; cases h

theorem word_facts {s : ByteArray} (hs : s.size ≤ 2147483647) (h : isWord s = true) : NameFacts s (-1) 0 ∧ LastAt s 46 (-1) ∧ FirstAt s 46 (-1) := by
  have hw := (isWord_yes h).2
  exact ⟨⟨by unfold maxLen; omega, fun k hk => ⟨wc_ne (hw k hk) (by decide), wc_ne (hw k hk) (by decide)⟩, fun k hk => wc_ne (hw k hk) (by decide),
      ⟨.inl rfl, fun j hj _ => wc_ne (hw j hj) (by decide)⟩, by decide⟩, ⟨.inl rfl, fun j hj _ => wc_ne (hw j hj) (by decide)⟩, ⟨.inl rfl, fun j hj _ => wc_ne (hw j hj) (by decide)⟩⟩

theorem parts_word (s : ByteArray) (hs : s.size ≤ 2147483647) (h : isWord s = true) (w : World) :
    Calls Try.prog 7 #[.string s] w fun e w' => e = .returned (.tuple #[.string ByteArray.empty, .string ByteArray.empty, .string s]) ∧ Below w.heap.size w w' := by
  obtain ⟨h1, h2, h3⟩ := word_facts hs h
  have e : s.extract (-1 + 1 : Int).toNat s.size = s := ext_all s
  have := nameParts_one s (-1) (-1) (-1) 0 w h1 (by rw [ext_all]; exact h3) (by rw [ext_all]; exact h2) h2 ByteArray.empty (.inl ⟨rfl, rfl⟩)
  rw [e] at this
  exact parts_of s _ _ _ w this

theorem word11 (s : ByteArray) (w : World) (hs : s.size ≤ maxLen) :
    Calls Try.prog 11 #[.string s] w fun e w' => e = .returned (.bool (isWord s)) ∧ w = w' := by
  go_enter Try.func11, Try.ntmps11
  go_wp2_with fail
  refine (word_any s _ hs).mono ?_
  rintro e w1 ⟨rfl, rfl⟩
  go_wp2_with fail
  go_ret
  exact ⟨rfl, rfl⟩

set_option maxHeartbeats 400000 in
theorem plainName_any (s : ByteArray) (w : World) (hs : s.size ≤ maxLen) :
    Calls Try.prog 4 #[.string s] w fun e w' => e = .returned (.bool true) ∧ Below w.heap.size w w' := by
  have hs' := hs
  unfold maxLen at hs
  by_cases hlen : 2147483647 < s.size
  · go_enter Try.func4, Try.ntmps4
    go_wp2_with fail
    go_ret
    exact ⟨rfl, Below.refl _ _⟩
  · cases hw : isWord s
    · have HW := Lib.hid hw
      clear hw
      go_enter Try.func4, Try.ntmps4
      go_wp2_with fail
      refine (word11 s _ hs').mono ?_
      rintro e w1 ⟨rfl, rfl⟩
      rw [HW.out]
      go_wp2_with fail
      go_ret
      exact ⟨rfl, Below.refl _ _⟩
    · have HP := Lib.hid (parts_word s (by omega) hw w)
      have HW := Lib.hid hw
      clear hw
      go_enter Try.func4, Try.ntmps4
      go_wp2_with fail
      refine (word11 s _ hs').mono ?_
      rintro e w1 ⟨rfl, rfl⟩
      rw [HW.out]
      go_wp2_with fail
      refine HP.out.mono ?_
      rintro e w1 ⟨rfl, hb1⟩
      go_wp2_with fail
      go_ret
      exact ⟨by simp, hb1⟩
end Go.Proofs.Ytomdkgibigfhlaa
