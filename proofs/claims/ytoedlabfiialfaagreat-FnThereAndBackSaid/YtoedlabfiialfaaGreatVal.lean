/-
  The values of runs.
-/
import Derived.Test.YtoedlabfiialfaaGreatLay
namespace Go.Proofs.YtoedlabfiialfaaGreat
open Go.RowKit

theorem valN_mem {l : List Run} (qm n : Nat) : valN qm l n = -1 ∨ ∃ k, ∃ h : k < l.length, valN qm l n = l[k].v := by
  induction l generalizing n with
  | nil => exact .inl rfl
  | cons r l ih =>
    unfold valN
    split
    · exact .inr ⟨0, by simp, rfl⟩
    · rcases ih (n - r.q * qm) with h | ⟨k, hk, h⟩
      · exact .inl h
      · exact .inr ⟨k + 1, by simpa using hk, by simpa using h⟩
theorem RunsGood.val {l : List Run} {most : Int} (h : RunsGood l most) (qm n : Nat) : valN qm l n = -1 ∨ (1 ≤ valN qm l n ∧ valN qm l n ≤ most) := by
  rcases valN_mem (l := l) qm n with e | ⟨k, hk, e⟩
  · exact .inl e
  · right
    rw [e]
    exact ⟨(h.each k hk).v1, (h.each k hk).v2⟩
end Go.Proofs.YtoedlabfiialfaaGreat
