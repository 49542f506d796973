/-
  The law FnExactParts, walked: for every name the call returns true.
-/
import Derived.Test.YtomdkgibigfhlaaNames
namespace Go.Proofs.Ytomdkgibigfhlaa
open Go.RowKit

/-- the box of a name in memory -/
structure BoxAt (w : World) (g : Nat) (A : Option Addr) (c : Nat) (l : List ByteArray) (T B : ByteArray) (p : Bool) : Prop where
  lt : g < w.heap.size
  c0 : w.cell? ⟨g, 0, none⟩ = some (.slice A l.length c)
  c1 : w.cell? ⟨g, 1, none⟩ = some (.string T)
  c2 : w.cell? ⟨g, 2, none⟩ = some (.bool p)
  c3 : w.cell? ⟨g, 3, none⟩ = some (.string B)
theorem BoxAt.keep {w w' : World} {g : Nat} {A : Option Addr} {c : Nat} {l : List ByteArray} {T B : ByteArray} {p : Bool} (h : BoxAt w g A c l T B p) (hb : Below w.heap.size w w') : BoxAt w' g A c l T B p :=
  ⟨Nat.lt_of_lt_of_le h.lt hb.size, (hb.cell (p := ⟨g, 0, none⟩) h.lt).trans h.c0, (hb.cell (p := ⟨g, 1, none⟩) h.lt).trans h.c1, (hb.cell (p := ⟨g, 2, none⟩) h.lt).trans h.c2, (hb.cell (p := ⟨g, 3, none⟩) h.lt).trans h.c3⟩
theorem boxAt_new (w : World) (A : Option Addr) (c : Nat) (l : List ByteArray) (T B : ByteArray) (p : Bool) : BoxAt (w.alloc (.cells #[.slice A l.length c, .string T, .bool p, .string B] 24)) w.heap.size A c l T B p :=
  ⟨by simp, by simp [cell_of_row _ _ 0 _ _ _ (heap_alloc_new w _)], by simp [cell_of_row _ _ 1 _ _ _ (heap_alloc_new w _)], by simp [cell_of_row _ _ 2 _ _ _ (heap_alloc_new w _)], by simp [cell_of_row _ _ 3 _ _ _ (heap_alloc_new w _)]⟩

theorem fits5_all {l : List ByteArray} {T B : ByteArray} (h : fits5 l T B = true) : SizesOk l T B := by
  unfold fits5 at h
  rw [Bool.and_eq_true, Bool.and_eq_true] at h
  exact ⟨h.1.1, of_decide_eq_true h.1.2, of_decide_eq_true h.2⟩

set_option maxHeartbeats 2000000 in
theorem exactParts_any (A : Option Addr) (c : Nat) (l : List ByteArray) (T B : ByteArray) (p : Bool) (Bd : Nat) (w : World) (H : NamedOk w Bd A l T B) :
    Calls Try.prog 3 #[.agg #[.slice A l.length c, .string T, .bool p, .string B]] w fun e w' => e = .returned (.bool true) ∧ Below w.heap.size w w' := by
  have hb0 : Below w.heap.size w (w.alloc (.cells #[.slice A l.length c, .string T, .bool p, .string B] 24)) := (Below.refl _ _).alloc (Nat.le_refl _) _
  have B0 := boxAt_new w A c l T B p
  have HH := H.keep (hb0.mono H.bd)
  have hbd := H.bd
  cases hf : fits5 l T B
  · have HF := Lib.hid hf
    clear hf
    go_enter Try.func3, Try.ntmps3
    go_wp2_with fail
    refine (zzFits5_any A c l T B p Bd _ HH).mono ?_
    rintro e w1 ⟨rfl, hb1⟩
    rw [HF.out]
    go_wp2_with fail
    go_ret
    exact ⟨rfl, hb0.trans (hb1.mono (by simp))⟩
  · have hsz := fits5_all hf
    have HF := Lib.hid hf
    clear hf
    go_enter Try.func3, Try.ntmps3
    go_wp2_with fail
    refine (zzFits5_any A c l T B p Bd _ HH).mono ?_
    rintro e w1 ⟨rfl, hb1⟩
    rw [HF.out]
    have B1 := B0.keep hb1
    have hbw1 : Below w.heap.size w w1 := hb0.trans (hb1.mono (by simp))
    have H1 := H.keep (hbw1.mono hbd)
    have ⟨hlt1, c10, c11, c12, c13⟩ := B1
    go_wp2_with fail
    refine (well_any A c l T B p Bd _ H1).mono ?_
    rintro e w2 ⟨bo, rfl, hwell, hb2⟩
    have B2 := B1.keep hb2
    have hbw2 : Below w.heap.size w w2 := hbw1.trans (hb2.mono hbw1.size)
    have H2 := H.keep (hbw2.mono hbd)
    have ⟨hlt2, c20, c21, c22, c23⟩ := B2
    cases bo
    · go_wp2_with fail
      go_ret
      exact ⟨rfl, hbw2⟩
    · have hW := hwell rfl
      clear hwell
      obtain ⟨r, hpf⟩ := path_facts l hW.els hW.some_
      go_wp2_with fail
      refine (string_any A c l T B p Bd _ H2 hsz.fit hsz.T hsz.B).mono ?_
      rintro e w3 ⟨rfl, hb3⟩
      have B3 := B2.keep hb3
      have hbw3 : Below w.heap.size w w3 := hbw2.trans (hb3.mono hbw2.size)
      have H3 := H.keep (hbw3.mono hbd)
      have ⟨hlt3, c30, c31, c32, c33⟩ := B3
      go_wp2_with fail
      have hpk := pkTo_size l (fits4_el hsz.fit) l.length (Nat.le_refl _)
      have hl2 := fits4_len hsz.fit
      have hpk2 : l.length * 2147483648 ≤ 2147483647 * 2147483648 := Nat.mul_le_mul_right _ (by omega)
      have hrs : (recvOf T p).size ≤ T.size + 3 := by
        unfold recvOf
        have e1 : (ByteArray.mk #[40, 42]).size = 2 := rfl
        have e2 : (ByteArray.mk #[41]).size = 1 := rfl
        split
        · simp only [ByteArray.size_append]; omega
        · omega
      have hh1 : (ByteArray.mk #[46]).size = 1 := rfl
      have hTs := hsz.T
      have hBs := hsz.B
      have hparts : Calls Try.prog 7 #[.string (strOf l T p B)] w3 fun e w' => e = .returned (.tuple #[.string (pkTo l l.length), .string (recvOf T p), .string B]) ∧ Below w3.heap.size w3 w' := by
        by_cases hT0 : T.size = 0
        · have e1 : strOf l T p B = pkTo l l.length ++ ⟨#[46]⟩ ++ B := by unfold strOf; rw [if_pos hT0]
          have e2 : recvOf T p = ByteArray.empty := by
            unfold recvOf
            rw [if_neg (fun h => h.1 hT0)]
            exact ByteArray.ext (Array.eq_empty_of_size_eq_zero hT0)
          rw [e1, e2]
          exact parts_named_none hpf hW.base (by unfold maxLen; simp only [ByteArray.size_append, hh1]; omega) _
        · have e1 : strOf l T p B = pkTo l l.length ++ ⟨#[46]⟩ ++ recvOf T p ++ ⟨#[46]⟩ ++ B := by unfold strOf; rw [if_neg hT0]
          obtain ⟨r1, r2, _⟩ := recv_facts p (hW.type.resolve_left hT0)
          rw [e1]
          exact parts_named_some hpf r1 r2 hW.base (by unfold maxLen; simp only [ByteArray.size_append, hh1]; omega) _
      refine hparts.mono ?_
      clear hparts
      rintro e w4 ⟨rfl, hb4⟩
      have B4 := B3.keep hb4
      have hbw4 : Below w.heap.size w w4 := hbw3.trans (hb4.mono hbw3.size)
      have H4 := H.keep (hbw4.mono hbd)
      have ⟨hlt4, c40, c41, c42, c43⟩ := B4
      clear hpk hpk2 hrs hh1 hl2
      go_wp2_with fail
      refine (package_any A c l T B p Bd _ H4 hsz.fit).mono ?_
      rintro e w5 ⟨rfl, hb5⟩
      have B5 := B4.keep hb5
      have hbw5 : Below w.heap.size w w5 := hbw4.trans (hb5.mono hbw4.size)
      have ⟨hlt5, c50, c51, c52, c53⟩ := B5
      go_wp2_with fail
      refine (receiver_any A c l T B p _ hsz.T).mono ?_
      rintro e w6 ⟨rfl, hb6⟩
      have B6 := B5.keep hb6
      have hbw6 : Below w.heap.size w w6 := hbw5.trans (hb6.mono hbw5.size)
      have ⟨hlt6, c60, c61, c62, c63⟩ := B6
      go_wp2_with fail
      go_ret
      exact ⟨by simp, hbw6⟩
end Go.Proofs.Ytomdkgibigfhlaa
