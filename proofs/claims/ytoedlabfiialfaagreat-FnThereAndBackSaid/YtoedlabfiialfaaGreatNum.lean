/-
  The walks through the writers of numbers of the reference: number, word, varint.
-/
import Derived.Test.YtoedlabfiialfaaGreatData
import Derived.Laws.OwnMore
import Derived.OwnWalk
import Derived.Deep.DeepFit
import Derived.Outline
namespace Go.Proofs.YtoedlabfiialfaaGreat
open Go.RowKit

theorem infoByte : (Tryz.prog.info? 5).map (fun i => (i.zero, i.size, i.bytes)) = some (some (.int .u8 0), 1, 1) := by kernel_rfl

abbrev bv (x : UInt8) : Value := .int .u8 (x.toNat : Int)
theorem bv_one (l : List UInt8) : ∀ u ∈ l.map bv, u.oneCell' = true := by
  intro u hu
  obtain ⟨x, _, rfl⟩ := List.mem_map.1 hu
  rfl

/-- a slice of bytes of the call's own -/
structure OwnB (w : World) (base g cap : Nat) (l : List UInt8) : Prop where
  le : base ≤ g
  row : w.ownsRow base 5 1 (.slice (some ⟨g, 0, none⟩) l.length cap) l.length (l.map bv)
/-- what a writer of bytes hands back: a new slice that holds l -/
def Wrote (l : List UInt8) (w : World) (e : Ending) (w' : World) : Prop :=
  ∃ g cap, e = .returned (.slice (some ⟨g, 0, none⟩) l.length cap) ∧ OwnB w' w.heap.size g cap l ∧ Below w.heap.size w w'
theorem Wrote.mk {l : List UInt8} {w w' : World} {v : Value} {g cap n : Nat} {xs : List Value} (hv : v = .slice (some ⟨g, 0, none⟩) n cap) (hn : n = l.length) (hle : w.heap.size ≤ g)
    (hrow : w'.ownsRow w.heap.size 5 1 (.slice (some ⟨g, 0, none⟩) n cap) n xs) (hxs : xs = l.map bv) (hb : Below w.heap.size w w') : Wrote l w (.returned v) w' := by
  subst hv hn hxs
  exact ⟨g, cap, rfl, ⟨hle, hrow⟩, hb⟩
theorem OwnB.cells {w : World} {base g cap : Nat} {l : List UInt8} (h : OwnB w base g cap l) : ∀ j u, (l.map bv)[j]? = some u → w.cell? ((⟨g, 0, none⟩ : Addr).add j) = some u := h.row.cells (g := g) rfl
theorem OwnB.lt {w : World} {base g cap : Nat} {l : List UInt8} (h : OwnB w base g cap l) : g < w.heap.size := (h.row.lt g rfl).2

/-- where byte j of a number of k bytes goes -/
def npos (big : Bool) (k j : Nat) : Nat := if big then k - 1 - j else j
theorem numB_pos (big : Bool) (n k j : Nat) (hj : j < k) : (numB big n k)[npos big k j]? = some (UInt8.ofNat (n / 256 ^ j)) := by
  unfold numB npos
  cases big
  · simpa using leB_get n k j hj
  · simp only [if_true]
    rw [List.getElem?_reverse (by rw [leB_length]; omega), leB_length, show k - 1 - (k - 1 - j) = j by omega]
    exact leB_get n k j hj
theorem npos_npos (big : Bool) (k j : Nat) (hj : j < k) : npos big k (npos big k j) = j := by unfold npos; cases big <;> simp <;> omega
theorem npos_lt (big : Bool) (k j : Nat) (hj : j < k) : npos big k j < k := by unfold npos; split <;> omega
/-- bytes laid one by one make the number -/
theorem number_done (big : Bool) (n k : Nat) (xs : List Value) (hl : xs.length = k) (h : ∀ j, j < k → xs[npos big k j]? = some (bv (UInt8.ofNat (n / 256 ^ j)))) : xs = (numB big n k).map bv := by
  apply List.ext_getElem?
  intro m
  by_cases hm : m < k
  · have h1 := h (npos big k m) (npos_lt _ _ _ hm)
    have h2 := numB_pos big n k (npos big k m) (npos_lt _ _ _ hm)
    rw [npos_npos _ _ _ hm] at h1 h2
    rw [List.getElem?_map, h1, h2]
    rfl
  · rw [List.getElem?_eq_none (by omega), List.getElem?_eq_none (by simp [numB_length]; omega)]
theorem byte_val (n i : Nat) : (n : Int) / 2 ^ (8 * i) % 256 = ((UInt8.ofNat (n / 256 ^ i)).toNat : Int) := by
  rw [UInt8.toNat_ofNat']
  have : (n : Int) / ((2 : Int) ^ (8 * i)) = ((n / 256 ^ i : Nat) : Int) := by
    rw [show (256 : Nat) = 2 ^ 8 by rfl, ← Nat.pow_mul]
    simp
  rw [this]
  simp

/-- the box of a program stays below -/
theorem pbox_below (w : World) (FA SA : Option Addr) (fc sc : Nat) (p : Pg) (t : TypeId) : Below w.heap.size w (w.alloc (.cells #[.int .u64 p.start, .slice FA p.funcs.length fc, .slice SA p.files.length sc, .bool p.big, .bool p.wide, .int .i64 p.quantum] t)) := (Below.refl _ _).alloc (Nat.le_refl _) _

set_option maxRecDepth 100000 in
set_option maxHeartbeats 1000000 in
theorem number_any (FA SA : Option Addr) (fc sc : Nat) (p : Pg) (n k : Nat) (w : World) (hn : n < 18446744073709551616) (hk : 1 ≤ k ∧ k ≤ 8) :
    Calls Tryz.prog 33 #[pgv FA SA fc sc p, .int .u64 n, .int .i64 k] w (Wrote (numB p.big n k) w) := by
  have HB := Lib.hid (pbox_below w FA SA fc sc p 26)
  have hc3 : (w.alloc (.cells #[.int .u64 p.start, .slice FA p.funcs.length fc, .slice SA p.files.length sc, .bool p.big, .bool p.wide, .int .i64 p.quantum] 26)).cell? ⟨w.heap.size, 3, none⟩ = some (.bool p.big) := by
    simp [cell_of_row _ _ 3 _ _ _ (heap_alloc_new w _)]
  have hsz : (w.alloc (.cells #[.int .u64 p.start, .slice FA p.funcs.length fc, .slice SA p.files.length sc, .bool p.big, .bool p.wide, .int .i64 p.quantum] 26)).heap.size = w.heap.size + 1 := by simp
  have HSZ := Lib.hid hsz
  clear hsz
  obtain ⟨hk1, hk8⟩ := hk
  have HN := Lib.hid hn
  clear hn
  obtain ⟨i0, hi, hz0, hz1, hz2⟩ := info_parts infoByte
  have HI := Lib.hid hi
  have HZ0 := Lib.hid hz0
  have HZ1 := Lib.hid hz1
  have HZ2 := Lib.hid hz2
  clear hi hz0 hz1 hz2
  go_enter Tryz.func33, Tryz.ntmps33
  go_wp2_with (with_reducible refine wpList_make_full _ rfl _ _ 31 rfl w.heap.size 5 i0 (.int .u8 0) 1 Tryz.underlying31 HI.out HZ0.out HZ1.out .i64 .i64 _ _ k rfl rfl rfl rfl (by rw [HZ2.out]; omega) (by unfold maxLen; omega) (by simp) ?_; intro w1 hown hgrow)
  rw [HSZ.out] at hown
  have hbw1 : Below w.heap.size w w1 := (HB.out).grown hgrow (by rw [HSZ.out]; omega) (fun _ h => by cases h)
  have hc3' : w1.cell? ⟨w.heap.size, 3, none⟩ = some (.bool p.big) := hgrow.cell hc3 (by simp)
  have HXL := Lib.hid hown.1
  have HC3 := Lib.hid hc3'
  have HOWN := Lib.hid hown
  clear hown hc3 hc3' HB
  go_loopw [14] (fun i wr => ∃ (j : Nat) (xs : List Value), j ≤ k ∧ i = .int .i64 j ∧ xs.length = k ∧ (∀ m, m < j → xs[npos p.big k m]? = some (bv (UInt8.ofNat (n / 256 ^ m)))) ∧
      wr.ownsRow w.heap.size 5 1 (.slice (some ⟨w.heap.size + 1, 0, none⟩) k k) k xs ∧ Below w.heap.size w wr ∧ wr.cell? ⟨w.heap.size, 3, none⟩ = some (.bool p.big)) (fun i _ => k - (intOf i).toNat)
  case atStart => exact ⟨0, _, Nat.zero_le _, rfl, by simpa using HXL.out, fun m h => absurd h (by omega), HOWN.out, hbw1, HC3.out⟩
  case round =>
    obtain ⟨j, xs, hj, rfl, hxl, hxs, hown, hb, hc⟩ := hrel
    have HXS := Lib.hid hxs
    have HXL := Lib.hid hxl
    clear hxs hxl
    by_cases hlt : j < k
    · have hcell := hown.cellAt (npos p.big k j) (by have := npos_lt p.big k j hlt; omega)
      have hcell2 : ∃ u, wr.cell? ⟨w.heap.size + 1, npos p.big k j, none⟩ = some u := ⟨_, hcell.trans (List.getElem?_eq_getElem (by rw [HXL.out]; exact npos_lt p.big k j hlt))⟩
      obtain ⟨u, hu⟩ := hcell2
      have hfz := hown.frozenAt (npos p.big k j)
      have HST := Lib.hid (hown.stored (npos p.big k j) (bv (UInt8.ofNat (n / 256 ^ j))))
      have HV := Lib.hid (byte_val n j)
      clear hcell
      have HNEW : Hid (∀ m, m < j + 1 → (xs.set (npos p.big k j) (bv (UInt8.ofNat (n / 256 ^ j))))[npos p.big k m]? = some (bv (UInt8.ofNat (n / 256 ^ m)))) := by
        intro m hm
        rw [List.getElem?_set]
        by_cases e : m = j
        · subst e
          rw [if_pos rfl, if_pos (by rw [HXL.out]; exact npos_lt _ _ _ hlt)]
        · rw [if_neg (fun h => e (by have h1 := npos_npos p.big k m (by omega); have h2 := npos_npos p.big k j (by omega); rw [← h, h2] at h1; omega))]
          exact HXS.out m (by omega)
      have HGO : Hid ((wr.setCell ⟨w.heap.size + 1, npos p.big k j, none⟩ (bv (UInt8.ofNat (n / 256 ^ j)))).cell? ⟨w.heap.size, 3, none⟩ = some (.bool p.big)) := by
        rw [World.cell?_setCell_other _ _ _ _ (by simp)]; exact hc
      clear hown
      have hlen := Lib.hid (show (xs.set (npos p.big k j) (bv (UInt8.ofNat (n / 256 ^ j)))).length = k by simpa using HXL.out)
      generalize (UInt8.ofNat (n / 256 ^ j)) = z at *
      cases hbg : p.big
      · rw [hbg] at hc hu hfz
        simp only [npos, Bool.false_eq_true, if_false] at hu hfz
        go_wp2_with fail
        rw [hbg] at HST HNEW HGO hlen
        rw [HV.out]
        exact ⟨⟨j + 1, _, by omega, by go_num, hlen.out, HNEW.out, HST.out.1, hb.setCell (p := ⟨w.heap.size + 1, j, none⟩) (by simp) _, HGO.out⟩, by simp [intOf]; omega⟩
      · rw [hbg] at hc hu hfz
        simp only [npos, if_true] at hu hfz
        have hpos : (k : Int) - 1 - (j : Int) = ((k - 1 - j : Nat) : Int) := by omega
        have HPOS := Lib.hid hpos
        clear hpos
        go_wp2_with fail
        rw [hbg] at HST HNEW HGO hlen
        rw [HV.out]
        exact ⟨⟨j + 1, _, by omega, by go_num, hlen.out, HNEW.out, HST.out.1, hb.setCell (p := ⟨w.heap.size + 1, k - 1 - j, none⟩) (by simp) _, HGO.out⟩, by simp [intOf]; omega⟩
    · obtain rfl : k = j := by omega
      have HD := Lib.hid (number_done p.big n k xs HXL.out HXS.out)
      go_wp2_with fail
      go_ret
      exact Wrote.mk rfl (numB_length _ _ _).symm (Nat.le_succ _) hown HD.out hb

theorem Wrote.up {l : List UInt8} {w w1 w' : World} {e : Ending} (h : Wrote l w1 e w') (hb : Below w.heap.size w w1) : Wrote l w e w' := by
  obtain ⟨g, cap, e1, ⟨h1, h2⟩, h3⟩ := h
  have hs := hb.size
  refine ⟨g, cap, e1, ⟨by omega, h2.1, ?_⟩, hb.trans (h3.mono hs)⟩
  rcases h2.2 with ⟨h, _⟩ | ⟨g', c', cur, hv, hg, r⟩
  · cases h
  · exact .inr ⟨g', c', cur, hv, by omega, r⟩

set_option maxRecDepth 100000 in
set_option maxHeartbeats 1000000 in
theorem word_any (FA SA : Option Addr) (fc sc : Nat) (p : Pg) (n : Nat) (w : World) (hn : n < 18446744073709551616) :
    Calls Tryz.prog 31 #[pgv FA SA fc sc p, .int .u64 n] w (Wrote (wordB p n) w) := by
  have HB := Lib.hid (pbox_below w FA SA fc sc p 26)
  have HN := Lib.hid hn
  clear hn
  obtain ⟨st, fs, ss, bg, wd, qm⟩ := p
  cases wd
  · go_enter Tryz.func31, Tryz.ntmps31
    go_wp2_with fail
    refine (number_any FA SA fc sc ⟨st, fs, ss, bg, false, qm⟩ n 4 _ HN.out (by omega)).mono ?_
    intro e w1 h1
    obtain ⟨g, cap, rfl, h2, h3⟩ := h1.up HB.out
    go_wp2_with fail
    go_ret
    exact ⟨g, cap, rfl, h2, h3⟩
  · go_enter Tryz.func31, Tryz.ntmps31
    go_wp2_with fail
    refine (number_any FA SA fc sc ⟨st, fs, ss, bg, true, qm⟩ n 8 _ HN.out (by omega)).mono ?_
    intro e w1 h1
    obtain ⟨g, cap, rfl, h2, h3⟩ := h1.up HB.out
    go_wp2_with fail
    go_ret
    exact ⟨g, cap, rfl, h2, h3⟩
end Go.Proofs.YtoedlabfiialfaaGreat
