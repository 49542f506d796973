/-
  The bytes that the reference has written, as they lie in memory.
-/
import Derived.Test.YtoedlabfiialfaaOrd
namespace Go.Proofs.Ytoedlabfiialfaa
open Go.RowKit

theorem OwnB.mem {w : World} {base g cap : Nat} {l : List UInt8} (h : OwnB w base g cap l) : Mem w g 0 l := by
  intro k hk
  have := h.cells k (bv l[k]) (by simp [hk])
  rw [add_nil] at this
  rw [Nat.zero_add]
  exact this
theorem OwnB.cap {w : World} {base g cap : Nat} {l : List UInt8} (h : OwnB w base g cap l) (_ : 0 < l.length) : l.length ≤ cap ∧ cap ≤ maxLen := by
  rcases h.row.2 with ⟨hv, _⟩ | ⟨g', c', cur, hv, _, _, h1, h2, _⟩
  · cases hv
  · cases hv
    exact ⟨h1, h2⟩
theorem Mem.map {w : World} {b o : Nat} {l : List UInt8} (h : Mem w b o l) : ∀ j u, (l.map bv)[j]? = some u → w.cell? ((⟨b, o, none⟩ : Addr).add j) = some u := by
  intro j u hj
  rw [List.getElem?_map] at hj
  cases hx : l[j]? with
  | none => rw [hx] at hj; cases hj
  | some x =>
    rw [hx] at hj
    obtain ⟨hk, rfl⟩ := List.getElem?_eq_some_iff.1 hx
    simp only [Option.map_some, Option.some.injEq] at hj
    subst hj
    rw [Addr.add_lit]
    exact h j hk
end Go.Proofs.Ytoedlabfiialfaa
