/-
  A place lies in one function alone.
-/
import Derived.Test.YtoedlabfiialfaaGreatIso
import Derived.Test.YtoedlabfiialfaaGreatIat
namespace Go.Proofs.YtoedlabfiialfaaGreat
open Go.RowKit

theorem bnd_unique {p : Pg} (H : WellP p) {i j pc : Nat} (hi : i < p.funcs.length) (hj : j < p.funcs.length) (a1 : bndN p i ≤ pc) (a2 : pc < bndN p (i + 1)) (b1 : bndN p j ≤ pc) (b2 : pc < bndN p (j + 1)) : i = j := by
  rcases Nat.lt_trichotomy i j with h | h | h
  · have : bndN p (i + 1) ≤ bndN p j := by
      rcases Nat.lt_or_eq_of_le (show i + 1 ≤ j from h) with h' | h'
      · exact Nat.le_of_lt (H.bnd_mono _ _ h' (by omega))
      · rw [h']; exact Nat.le_refl _
    omega
  · exact h
  · have : bndN p (j + 1) ≤ bndN p i := by
      rcases Nat.lt_or_eq_of_le (show j + 1 ≤ i from h) with h' | h'
      · exact Nat.le_of_lt (H.bnd_mono _ _ h' (by omega))
      · rw [h']; exact Nat.le_refl _
    omega
theorem LineIs.out {p : Pg} {pc : Nat} {e : Ending} (H : WellP p) (h : LineIs p pc e) (ho : pc < bndN p 0 ∨ bndN p p.funcs.length ≤ pc) : e = .returned (.int .i64 (-1)) := by
  rcases h with ⟨_, h⟩ | ⟨k, hk, h1, h2, _⟩
  · exact h
  · exfalso
    rcases ho with h | h
    · rcases Nat.eq_zero_or_pos k with rfl | h0
      · omega
      · have := H.bnd_mono 0 k h0 (Nat.le_of_lt hk); omega
    · rcases Nat.lt_or_eq_of_le (show k + 1 ≤ p.funcs.length from hk) with h' | h'
      · have := H.bnd_mono _ _ h' (Nat.le_refl _); omega
      · rw [h'] at h2; omega
theorem LineIs.at {p : Pg} {pc i : Nat} {e : Ending} (H : WellP p) (h : LineIs p pc e) (hi : i < p.funcs.length) (h1 : bndN p i ≤ pc) (h2 : pc < bndN p (i + 1)) : e = .returned (.int .i64 (valN p.quantum.toNat p.funcs[i].lines (pc - bndN p i))) := by
  rcases h with ⟨ho, _⟩ | ⟨k, hk, k1, k2, he⟩
  · exfalso
    rcases ho with h | h
    · rcases Nat.eq_zero_or_pos i with rfl | h0
      · omega
      · have := H.bnd_mono 0 i h0 (Nat.le_of_lt hi); omega
    · rcases Nat.lt_or_eq_of_le (show i + 1 ≤ p.funcs.length from hi) with h' | h'
      · have := H.bnd_mono _ _ h' (Nat.le_refl _); omega
      · rw [h'] at h2; omega
  · obtain rfl := bnd_unique H hi hk h1 h2 k1 k2
    exact he

theorem bnd_zero (p : Pg) : bndN p 0 = p.start := by unfold bndN; cases p.funcs <;> rfl
theorem AtIs.out {p : Pg} {pc : Nat} {e : Ending} (H : WellP p) (h : AtIs p pc e) (ho : pc < bndN p 0 ∨ bndN p p.funcs.length ≤ pc) : e = .returned (.tuple #[.string ⟨#[]⟩, .bool false]) := by
  rcases h with ⟨_, h⟩ | ⟨k, hk, h1, h2, _⟩
  · exact h
  · exfalso
    rcases ho with h | h
    · rcases Nat.eq_zero_or_pos k with rfl | h0
      · omega
      · have := H.bnd_mono 0 k h0 (Nat.le_of_lt hk); omega
    · rcases Nat.lt_or_eq_of_le (show k + 1 ≤ p.funcs.length from hk) with h' | h'
      · have := H.bnd_mono _ _ h' (Nat.le_refl _); omega
      · rw [h'] at h2; omega
theorem AtIs.at {p : Pg} {pc i : Nat} {e : Ending} (H : WellP p) (h : AtIs p pc e) (hi : i < p.funcs.length) (h1 : bndN p i ≤ pc) (h2 : pc < bndN p (i + 1)) : e = .returned (.tuple #[.string p.funcs[i].name, .bool true]) := by
  rcases h with ⟨ho, _⟩ | ⟨k, hk, k1, k2, he⟩
  · exfalso
    rcases ho with h | h
    · rcases Nat.eq_zero_or_pos i with rfl | h0
      · omega
      · have := H.bnd_mono 0 i h0 (Nat.le_of_lt hi); omega
    · rcases Nat.lt_or_eq_of_le (show i + 1 ≤ p.funcs.length from hi) with h' | h'
      · have := H.bnd_mono _ _ h' (Nat.le_refl _); omega
      · rw [h'] at h2; omega
  · obtain rfl := bnd_unique H hi hk h1 h2 k1 k2
    exact he

end Go.Proofs.YtoedlabfiialfaaGreat
