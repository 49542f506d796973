/-
  The plain facts of names: what a path's text is, and where its dots and slashes lie.
-/
import Derived.Test.YtomdkgibigfhlaaWalk4
namespace Go.Proofs.Ytomdkgibigfhlaa
open Go.RowKit

/-- every byte of a text has a property -/
def allB (P : UInt8 → Prop) (s : ByteArray) : Prop := ∀ k (h : k < s.size), P s[k]
theorem allB.append {P : UInt8 → Prop} {a b : ByteArray} (ha : allB P a) (hb : allB P b) : allB P (a ++ b) := by
  intro k hk
  rw [ByteArray.size_append] at hk
  rcases Nat.lt_or_ge k a.size with h | h
  · rw [ByteArray.getElem_append_left h]; exact ha k h
  · rw [ByteArray.getElem_append_right h]; exact hb _ _
theorem allB.mono {P Q : UInt8 → Prop} {a : ByteArray} (h : ∀ x, P x → Q x) (ha : allB P a) : allB Q a := fun k hk => h _ (ha k hk)
theorem allB_one {P : UInt8 → Prop} {b : UInt8} (h : P b) : allB P ⟨#[b]⟩ := by
  intro k hk
  have : k = 0 := by have : (ByteArray.mk #[b]).size = 1 := rfl; omega
  subst this
  exact h
theorem allB_empty {P : UInt8 → Prop} : allB P ByteArray.empty := fun k hk => absurd hk (by simp)

theorem get_left {a b : ByteArray} {k : Nat} (h : k < a.size) : (a ++ b)[k]'(by rw [ByteArray.size_append]; omega) = a[k] := ByteArray.getElem_append_left h
theorem get_right {a b : ByteArray} {k : Nat} (h : a.size ≤ k) (h2 : k < a.size + b.size) : (a ++ b)[k]'(by rw [ByteArray.size_append]; omega) = b[k - a.size] := ByteArray.getElem_append_right h

/-- letters, digits, underscores and dots -/
def wd (b : UInt8) : Prop := wc b = true ∨ b = 46
theorem wd_ne {b c : UInt8} (h : wd b) (hc : wc c = false) (h46 : c ≠ 46) : b ≠ c := by
  rcases h with h | h
  · exact wc_ne h hc
  · rw [h]; exact fun e => h46 e.symm

/-- what a path's text is: bytes that are words, dots or slashes; behind its last slash (or from its beginning, if it has none) there is neither slash nor dot -/
structure PathFacts (s : ByteArray) (r : Int) : Prop where
  bytes : allB (fun b => wd b ∨ b = 47) s
  last : LastAt s 47 r
  nodot : ∀ j (h : j < s.size), r ≤ j → s[j] ≠ 46

theorem last_append {a b : ByteArray} {c : UInt8} {r : Int} (h : LastAt a c r) (hb : allB (· ≠ c) b) : LastAt (a ++ b) c r := by
  refine ⟨?_, ?_⟩
  · rcases h.at_ with h | ⟨k, hk, e, hc⟩
    · exact .inl h
    · exact .inr ⟨k, by rw [ByteArray.size_append]; omega, e, by rw [get_left hk]; exact hc⟩
  · intro j hj hr
    rw [ByteArray.size_append] at hj
    rcases Nat.lt_or_ge j a.size with h' | h'
    · rw [get_left h']; exact h.none_ j h' hr
    · rw [get_right h' hj]; exact hb _ _
theorem last_here (a b : ByteArray) (c : UInt8) (hb : allB (· ≠ c) b) : LastAt (a ++ ⟨#[c]⟩ ++ b) c a.size := by
  have h1 : (ByteArray.mk #[c]).size = 1 := rfl
  refine ⟨.inr ⟨a.size, by rw [ByteArray.size_append, ByteArray.size_append]; omega, rfl, ?_⟩, ?_⟩
  · rw [get_left (by rw [ByteArray.size_append]; omega), get_right (Nat.le_refl _) (by omega)]
    simp; rfl
  · intro j hj hr
    rw [ByteArray.size_append, ByteArray.size_append] at hj
    rw [get_right (by rw [ByteArray.size_append]; omega) (by rw [ByteArray.size_append]; omega)]
    exact hb _ _

theorem pk_facts (l : List ByteArray) (hel : ∀ i (h : i < l.length), 0 < l[i].size ∧ elOk l i l[i] l[i].size) (k : Nat) (hk : k < l.length) :
    allB (fun b => wd b ∨ b = 47) (pkTo l (k + 1)) ∧ ∃ r, LastAt (pkTo l (k + 1)) 47 r ∧ (k + 1 = l.length → ∀ j (h : j < (pkTo l (k + 1)).size), r ≤ j → (pkTo l (k + 1))[j] ≠ 46) := by
  have e1 := (hel k hk).2
  have hwd : allB wd l[k] := fun j hj => Or.elim (e1 j hj hj) Or.inl (fun h => Or.inr h.1)
  have hns : allB (· ≠ 47) l[k] := hwd.mono (fun x hx => wd_ne hx (by decide) (by decide))
  have hnd : k + 1 = l.length → allB (· ≠ 46) l[k] := fun h j hj => by
    rcases e1 j hj hj with h' | h'
    · exact wc_ne h' (by decide)
    · exact absurd h h'.2
  have hg : l.getD k ByteArray.empty = l[k] := by simp [List.getD, hk]
  induction k with
  | zero =>
    have e : pkTo l (0 + 1) = l[0] := by
      simp only [pkTo, hg]
      apply ByteArray.ext
      simp
    rw [e]
    refine ⟨hwd.mono (fun x hx => .inl hx), -1, ⟨.inl rfl, fun j hj _ => hns j hj⟩, fun h j hj _ => hnd h j hj⟩
  | succ k ih =>
    have e2 := (hel k (by omega)).2
    obtain ⟨i1, r, i2, _⟩ := ih (by omega) e2 (fun j hj => Or.elim (e2 j hj hj) Or.inl (fun h => Or.inr h.1)) (fun j hj => by
      rcases e2 j hj hj with h' | h'
      · exact wc_ne h' (by decide)
      · rw [h'.1]; decide) (fun h => absurd h (by omega)) (by simp [List.getD, show k < l.length by omega])
    have e : pkTo l (k + 1 + 1) = pkTo l (k + 1) ++ ⟨#[47]⟩ ++ l[k + 1] := by
      rw [pkTo, hg, if_pos (by omega)]
    rw [e]
    refine ⟨(i1.append (allB_one (.inr rfl))).append (hwd.mono (fun x hx => .inl hx)), (pkTo l (k + 1)).size, last_here _ _ _ hns, fun h j hj hr => ?_⟩
    rw [ByteArray.size_append, ByteArray.size_append] at hj
    have h1 : (ByteArray.mk #[47]).size = 1 := rfl
    have hr' : (pkTo l (k + 1)).size ≤ j := by omega
    rcases Nat.lt_or_ge j ((pkTo l (k + 1)).size + 1) with h' | h'
    · rw [get_left (by rw [ByteArray.size_append]; omega), get_right hr' (by omega)]
      have : j - (pkTo l (k + 1)).size = 0 := by omega
      simp only [this]
      exact (by decide : (47 : UInt8) ≠ 46)
    · rw [get_right (by rw [ByteArray.size_append]; omega) (by rw [ByteArray.size_append]; omega)]
      exact hnd h _ _

theorem path_facts (l : List ByteArray) (hel : ∀ i (h : i < l.length), 0 < l[i].size ∧ elOk l i l[i] l[i].size) (h0 : 0 < l.length) : ∃ r, PathFacts (pkTo l l.length) r := by
  obtain ⟨n, hn⟩ : ∃ n, l.length = n + 1 := ⟨l.length - 1, by omega⟩
  obtain ⟨h1, r, h2, h3⟩ := pk_facts l hel n (by omega)
  rw [← hn] at h1 h2 h3
  exact ⟨r, h1, h2, h3 rfl⟩

theorem first_ext {s : ByteArray} {c : UInt8} {pe d : Nat} (hd : d < s.size) (hc : s[d] = c) (hpe : pe ≤ d) (hn : ∀ j (h : j < s.size), pe ≤ j → j < d → s[j] ≠ c) : FirstAt (s.extract pe s.size) c ((d - pe : Nat) : Int) := by
  refine ⟨.inr ⟨d - pe, by rw [ByteArray.size_extract]; omega, rfl, ?_⟩, ?_⟩
  · rw [ByteArray.getElem_extract]
    simp only [show pe + (d - pe) = d by omega]
    exact hc
  · intro j hj hlt
    rw [ByteArray.size_extract] at hj
    rw [ByteArray.getElem_extract]
    exact hn _ _ (by omega) (by omega)
theorem last_ext {s : ByteArray} {c : UInt8} {pe d : Nat} (h : LastAt s c (d : Int)) (hpe : pe ≤ d) : LastAt (s.extract pe s.size) c ((d - pe : Nat) : Int) := by
  obtain ⟨k, hk, e, hc⟩ := h.at_.resolve_left (by omega)
  obtain rfl : d = k := by omega
  refine ⟨.inr ⟨d - pe, by rw [ByteArray.size_extract]; omega, rfl, ?_⟩, ?_⟩
  · rw [ByteArray.getElem_extract]
    simp only [show pe + (d - pe) = d by omega]
    exact hc
  · intro j hj hlt
    rw [ByteArray.size_extract] at hj
    rw [ByteArray.getElem_extract]
    exact h.none_ _ _ (by omega)

theorem ext_left (a b : ByteArray) : (a ++ b).extract 0 a.size = a := by
  apply ByteArray.ext
  simp
theorem ext_right (a b : ByteArray) : (a ++ b).extract a.size (a.size + b.size) = b := by
  apply ByteArray.ext_getElem
  · rw [ByteArray.size_extract, ByteArray.size_append]; omega
  · intro i h1 h2
    rw [ByteArray.getElem_extract, get_right (by omega) (by omega)]
    simp only [show a.size + i - a.size = i by omega]

/-- the bytes of a name -/
def nb (b : UInt8) : Prop := wd b ∨ b = 47 ∨ b = 40 ∨ b = 41 ∨ b = 42
theorem nb_ne {b c : UInt8} (h : nb b) (hc : wc c = false) (h46 : c ≠ 46) (h47 : c ≠ 47) (h40 : c ≠ 40) (h41 : c ≠ 41) (h42 : c ≠ 42) : b ≠ c := by
  rcases h with h | h | h | h | h
  · exact wd_ne h hc h46
  all_goals (rw [h]; exact fun e => by subst e; contradiction)

theorem recv_facts {T : ByteArray} (p : Bool) (hT : isWord T = true) : allB nb (recvOf T p) ∧ allB (· ≠ 47) (recvOf T p) ∧ allB (· ≠ 46) (recvOf T p) := by
  have hw := (isWord_yes hT).2
  have a1 : allB (· ≠ 47) T := fun k hk => wc_ne (hw k hk) (by decide)
  have a2 : allB (· ≠ 46) T := fun k hk => wc_ne (hw k hk) (by decide)
  have a3 : allB nb T := fun k hk => .inl (.inl (hw k hk))
  have h2 : ∀ (P : UInt8 → Prop), P 40 → P 42 → allB P ⟨#[40, 42]⟩ := fun P p1 p2 k hk => by
    have : (ByteArray.mk #[40, 42]).size = 2 := rfl
    rcases (show k = 0 ∨ k = 1 by omega) with rfl | rfl
    · exact p1
    · exact p2
  unfold recvOf
  split
  · exact ⟨((h2 _ (.inr (.inr (.inl rfl))) (.inr (.inr (.inr (.inr rfl))))).append a3).append (allB_one (.inr (.inr (.inr (.inl rfl))))),
      ((h2 _ (by decide) (by decide)).append a1).append (allB_one (by decide)), ((h2 _ (by decide) (by decide)).append a2).append (allB_one (by decide))⟩
  · exact ⟨a3, a1, a2⟩

structure SizesOk (l : List ByteArray) (T B : ByteArray) : Prop where
  fit : fits4 l = true
  T : T.size ≤ 2147483647
  B : B.size ≤ 2147483647

theorem name_facts {A R B : ByteArray} {r : Int} (hA : PathFacts A r) (hR : allB nb R) (hR47 : allB (· ≠ 47) R) (hB : isWord B = true) (hsz : (A ++ ⟨#[46]⟩ ++ R ++ B).size < maxLen) :
    NameFacts (A ++ ⟨#[46]⟩ ++ R ++ B) r (max r 0).toNat := by
  have hw := (isWord_yes hB).2
  have hnb : allB nb (A ++ ⟨#[46]⟩ ++ R ++ B) := (((hA.bytes.mono (fun x hx => hx.elim .inl (fun h => .inr (.inl h)))).append (allB_one (.inl (.inr rfl)))).append hR).append (fun k hk => .inl (.inl (hw k hk)))
  refine ⟨hsz, fun k hk => ⟨nb_ne (hnb k hk) (by decide) (by decide) (by decide) (by decide) (by decide) (by decide), nb_ne (hnb k hk) (by decide) (by decide) (by decide) (by decide) (by decide) (by decide)⟩,
    fun k hk => nb_ne (hnb k hk) (by decide) (by decide) (by decide) (by decide) (by decide) (by decide), ?_, rfl⟩
  exact last_append (last_append (last_append hA.last (allB_one (by decide))) hR47) (fun k hk => wc_ne (hw k hk) (by decide))

theorem parts_named_none {A B : ByteArray} {r : Int} (hA : PathFacts A r) (hB : isWord B = true) (hsz : (A ++ ⟨#[46]⟩ ++ B).size < maxLen) (w : World) :
    Calls Try.prog 7 #[.string (A ++ ⟨#[46]⟩ ++ B)] w fun e w' => e = .returned (.tuple #[.string A, .string ByteArray.empty, .string B]) ∧ Below w.heap.size w w' := by
  have hw := (isWord_yes hB).2
  have e0 : A ++ ⟨#[46]⟩ ++ ByteArray.empty ++ B = A ++ ⟨#[46]⟩ ++ B := by
    apply ByteArray.ext
    simp
  have hf := name_facts (R := ByteArray.empty) hA allB_empty allB_empty hB (by rw [e0]; exact hsz)
  rw [e0] at hf
  have h1 : (ByteArray.mk #[46]).size = 1 := rfl
  have hs : (A ++ ⟨#[46]⟩ ++ B).size = A.size + 1 + B.size := by rw [ByteArray.size_append, ByteArray.size_append, h1]
  have hrA := lt_of_last hA.last
  have hpe : (max r 0).toNat ≤ A.size := by omega
  have hlast : LastAt (A ++ ⟨#[46]⟩ ++ B) 46 (A.size : Int) := last_here _ _ _ (fun k hk => wc_ne (hw k hk) (by decide))
  have hfirst := first_ext (s := A ++ ⟨#[46]⟩ ++ B) (c := 46) (pe := (max r 0).toNat) (d := A.size) (by omega) (by
    rw [get_left (by rw [ByteArray.size_append]; omega), get_right (Nat.le_refl _) (by omega)]
    simp; rfl) hpe (fun j hj hp hlt => by
    rw [get_left (by rw [ByteArray.size_append]; omega), get_left hlt]
    exact hA.nodot _ _ (by omega))
  have h := nameParts_one _ r _ (A.size : Int) _ w hf hfirst (last_ext hlast hpe) hlast A (.inr ⟨by omega, by
    rw [show (max r 0).toNat + ((A.size - (max r 0).toNat : Nat) : Int).toNat = A.size by omega]
    rw [show A ++ ⟨#[46]⟩ ++ B = A ++ (⟨#[46]⟩ ++ B) from ByteArray.append_assoc .., ext_left]⟩)
  have e1 : (A ++ ⟨#[46]⟩ ++ B).extract ((A.size : Int) + 1).toNat (A ++ ⟨#[46]⟩ ++ B).size = B := by
    have := ext_right (A ++ ⟨#[46]⟩) B
    rw [show (A ++ ⟨#[46]⟩).size = A.size + 1 by rw [ByteArray.size_append, h1]] at this
    rw [hs, show ((A.size : Int) + 1).toNat = A.size + 1 by omega]
    exact this
  rw [e1] at h
  exact parts_of _ _ _ _ w h

theorem parts_named_some {A R B : ByteArray} {r : Int} (hA : PathFacts A r) (hR : allB nb R) (hR47 : allB (· ≠ 47) R) (hB : isWord B = true) (hsz : (A ++ ⟨#[46]⟩ ++ R ++ ⟨#[46]⟩ ++ B).size < maxLen) (w : World) :
    Calls Try.prog 7 #[.string (A ++ ⟨#[46]⟩ ++ R ++ ⟨#[46]⟩ ++ B)] w fun e w' => e = .returned (.tuple #[.string A, .string R, .string B]) ∧ Below w.heap.size w w' := by
  have hw := (isWord_yes hB).2
  have e0 : A ++ ⟨#[46]⟩ ++ (R ++ ⟨#[46]⟩) ++ B = A ++ ⟨#[46]⟩ ++ R ++ ⟨#[46]⟩ ++ B := by
    simp only [ByteArray.append_assoc]
  have hf := name_facts (R := R ++ ⟨#[46]⟩) hA (hR.append (allB_one (.inl (.inr rfl)))) (hR47.append (allB_one (by decide))) hB (by rw [e0]; exact hsz)
  rw [e0] at hf
  have h1 : (ByteArray.mk #[46]).size = 1 := rfl
  have hs : (A ++ ⟨#[46]⟩ ++ R ++ ⟨#[46]⟩ ++ B).size = A.size + 1 + R.size + 1 + B.size := by simp only [ByteArray.size_append, h1]
  have hs2 : (A ++ ⟨#[46]⟩ ++ R).size = A.size + 1 + R.size := by simp only [ByteArray.size_append, h1]
  have hs3 : (A ++ ⟨#[46]⟩ ++ R ++ ⟨#[46]⟩).size = A.size + 1 + R.size + 1 := by simp only [ByteArray.size_append, h1]
  have hs4 : (A ++ ⟨#[46]⟩).size = A.size + 1 := by simp only [ByteArray.size_append, h1]
  have hrA := lt_of_last hA.last
  have hpe : (max r 0).toNat ≤ A.size := by omega
  have hlast : LastAt (A ++ ⟨#[46]⟩ ++ R ++ ⟨#[46]⟩ ++ B) 46 ((A ++ ⟨#[46]⟩ ++ R).size : Int) := last_here _ _ _ (fun k hk => wc_ne (hw k hk) (by decide))
  rw [hs2] at hlast
  have hfirst := first_ext (s := A ++ ⟨#[46]⟩ ++ R ++ ⟨#[46]⟩ ++ B) (c := 46) (pe := (max r 0).toNat) (d := A.size) (by omega) (by
    rw [get_left (by omega), get_left (by omega), get_left (by omega), get_right (Nat.le_refl _) (by omega)]
    simp; rfl) hpe (fun j hj hp hlt => by
    rw [get_left (by omega), get_left (by omega), get_left (by omega), get_left hlt]
    exact hA.nodot _ _ (by omega))
  have hl2 := last_ext (pe := (max r 0).toNat) (d := A.size + 1 + R.size) hlast (by omega)
  have h := nameParts_two _ r (A.size - (max r 0).toNat) (A.size + 1 + R.size - (max r 0).toNat) _ w hf hfirst hl2 (by omega) (by
    rw [show (max r 0).toNat + (A.size + 1 + R.size - (max r 0).toNat) = A.size + 1 + R.size by omega]
    exact hlast)
  rw [show (max r 0).toNat + (A.size + 1 + R.size - (max r 0).toNat) = A.size + 1 + R.size by omega, show (max r 0).toNat + (A.size - (max r 0).toNat) = A.size by omega] at h
  have e1 : (A ++ ⟨#[46]⟩ ++ R ++ ⟨#[46]⟩ ++ B).extract (A.size + 1 + R.size + 1) (A ++ ⟨#[46]⟩ ++ R ++ ⟨#[46]⟩ ++ B).size = B := by
    have := ext_right (A ++ ⟨#[46]⟩ ++ R ++ ⟨#[46]⟩) B
    rw [hs3] at this
    rw [hs]
    exact this
  have e2 : (A ++ ⟨#[46]⟩ ++ R ++ ⟨#[46]⟩ ++ B).extract 0 A.size = A := by
    have := ext_left A (⟨#[46]⟩ ++ (R ++ (⟨#[46]⟩ ++ B)))
    simpa only [ByteArray.append_assoc] using this
  have e3 : (A ++ ⟨#[46]⟩ ++ R ++ ⟨#[46]⟩ ++ B).extract (A.size + 1) (A.size + 1 + R.size) = R := by
    apply ByteArray.ext_getElem
    · rw [ByteArray.size_extract, hs]; omega
    · intro i h1 h2
      rw [ByteArray.getElem_extract, get_left (by omega), get_left (by omega), get_right (by omega) (by omega)]
      simp only [hs4, show A.size + 1 + i - (A.size + 1) = i by omega]
  rw [e1, e2, e3] at h
  exact parts_of _ _ _ _ w h
end Go.Proofs.Ytomdkgibigfhlaa
