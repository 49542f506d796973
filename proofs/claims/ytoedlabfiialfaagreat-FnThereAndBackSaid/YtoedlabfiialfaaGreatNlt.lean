/-
  A line table newly made, over bytes newly copied.
-/
import Derived.Test.YtoedlabfiialfaaGreatIso
import Derived.Test.YtoedlabfiialfaaGreatOwn
import Derived.Test.YtoedlabfiialfaaGreatMp
namespace Go.Proofs.YtoedlabfiialfaaGreat
open Go.RowKit

theorem own_empty (w : World) : OwnV (w.alloc (.cells #[] 5)) w.heap.size (.slice (some ⟨w.heap.size, 0, none⟩) 0 0) [] :=
  ⟨rfl, .inr ⟨w.heap.size, 0, #[], rfl, Nat.le_refl _, heap_alloc_new _ _, Nat.le_refl _, by unfold maxLen; omega, rfl, rfl⟩⟩
theorem OwnV.bytes {w : World} {base : Nat} {v : Value} {l : List UInt8} (h : OwnV w base v l) (hn : 0 < l.length) : ∃ g cap, v = .slice (some ⟨g, 0, none⟩) l.length cap ∧ base ≤ g ∧ g < w.heap.size ∧ l.length ≤ cap ∧ cap ≤ maxLen ∧ Mem w g 0 l := by
  obtain ⟨g, cap, hv, hg⟩ := ownsRow_slice h hn
  subst hv
  have ho : OwnB w base g cap l := ⟨hg, h⟩
  exact ⟨g, cap, rfl, hg, ho.lt, (ho.cap hn).1, (ho.cap hn).2, ho.mem⟩

/-- the world in which NewLineTable has made its table -/
abbrev nltW (w : World) (D : Value) : World := ((w.alloc (.map #[] 0)).alloc (.map #[] 0)).alloc (.cells (row0 D (.map (some w.heap.size)) (.map (some (w.heap.size + 1)))) 137)
theorem nlt_row (w : World) (D : Value) : (nltW w D).heap[w.heap.size + 2]? = some (.cells (row0 D (.map (some w.heap.size)) (.map (some (w.heap.size + 1)))) 137 (0, 0)) := by
  have := heap_alloc_new ((w.alloc (.map #[] 0)).alloc (.map #[] 0)) (.cells (row0 D (.map (some w.heap.size)) (.map (some (w.heap.size + 1)))) 137)
  simpa using this
theorem nlt_below (w : World) (D : Value) : Below w.heap.size w (nltW w D) :=
  (((Below.refl _ _).alloc (Nat.le_refl _) _).alloc (by simp) _).alloc (by simp; omega) _
theorem nlt_map1 {α : Type} (mk : α → Value) (w : World) (D : Value) : MapL mk (nltW w D) w.heap.size [] := by
  unfold MapL nltW
  rw [heap_alloc_old _ _ (by simp; omega), heap_alloc_old _ _ (by simp), heap_alloc_new]
  rfl
theorem nlt_map2 {α : Type} (mk : α → Value) (w : World) (D : Value) : MapL mk (nltW w D) (w.heap.size + 1) [] := by
  unfold MapL nltW
  rw [heap_alloc_old _ _ (by simp)]
  have := heap_alloc_new (w.alloc (.map #[] 0)) (.map #[] 0)
  rw [show (w.alloc (.map #[] 0)).heap.size = w.heap.size + 1 by simp] at this
  rw [this]
  rfl
theorem nlt_size (w : World) (D : Value) : (nltW w D).heap.size = w.heap.size + 3 := by simp [nltW]
end Go.Proofs.YtoedlabfiialfaaGreat
