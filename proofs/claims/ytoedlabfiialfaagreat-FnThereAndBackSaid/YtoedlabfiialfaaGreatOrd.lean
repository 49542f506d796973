/-
  The walks through the readers of numbers: Uint16, Uint32, Uint64, uintptr.
-/
import Derived.Test.YtoedlabfiialfaaGreatReg
import Derived.Test.YtoedlabfiialfaaGreatDet2
import Derived.Lib.EndianBits
namespace Go.Proofs.YtoedlabfiialfaaGreat
open Go.RowKit

/-- bytes lie in a block from an offset on -/
def Mem (w : World) (b o : Nat) (l : List UInt8) : Prop := ∀ k (h : k < l.length), w.cell? ⟨b, o + k, none⟩ = some (bv l[k])
theorem Mem.keep {w w' : World} {b o : Nat} {l : List UInt8} (h : Mem w b o l) (hb : b < w.heap.size) (hf : Below w.heap.size w w') : Mem w' b o l :=
  fun k hk => (hf.cell (p := ⟨b, o + k, none⟩) hb).trans (h k hk)
theorem Mem.fr {S : Nat → Prop} {w w' : World} {b o : Nat} {l : List UInt8} (h : Mem w b o l) (hf : Fr S w w') (hs : ¬ S b) : Mem w' b o l :=
  fun k hk => hf.cell (h k hk) hs
theorem Mem.at {w : World} {b o : Nat} {d x : List UInt8} (h : Mem w b 0 d) (ha : At d o x) : Mem w b o x := by
  intro k hk
  have h1 := ha.get k hk
  rw [List.getElem?_eq_getElem hk] at h1
  obtain ⟨h2, h3⟩ := List.getElem?_eq_some_iff.1 h1
  have := h (o + k) h2
  rw [Nat.zero_add] at this
  rw [this, h3]
theorem Mem.left {w : World} {b o : Nat} {x y : List UInt8} (h : Mem w b o (x ++ y)) : Mem w b o x := by
  intro k hk
  have := h k (by simp; omega)
  rwa [List.getElem_append_left hk] at this
theorem Mem.right {w : World} {b o : Nat} {x y : List UInt8} (h : Mem w b o (x ++ y)) : Mem w b (o + x.length) y := by
  intro k hk
  have := h (x.length + k) (by simp; omega)
  rw [List.getElem_append_right (by omega)] at this
  simp only [Nat.add_sub_cancel_left] at this
  rwa [← Nat.add_assoc] at this

theorem below_next2 {W0 w w' : World} (h : Below W0.heap.size W0 w) (h' : Below w.heap.size w w') : Below W0.heap.size W0 w' := h.trans (h'.mono h.size)
theorem bits_or_comm (k : IntKind) (x y : Int) : bits .or k x y = bits .or k y x := by simp only [bits, BitVec.or_comm]
theorem or16 (x y : Nat) (hx : x < 256) (hy : y < 256) : bits .or .u16 (IntKind.u16.wrap (IntKind.u16.wrap (x : Int) * 256)) (IntKind.u16.wrap (y : Int)) = (y : Int) + 256 * x := by
  rw [u16_wrap_id (x : Int) (by omega) (by omega), u16_wrap_id (y : Int) (by omega) (by omega), u16_wrap_id ((x : Int) * 256) (by omega) (by omega), bits_or_comm, u16_or8 _ _ (by omega) (by omega) (by omega) (by omega) (by omega)]
  omega
theorem or32 (x y : Nat) (hx : x < 65536) (hy : y < 65536) : bits .or .u32 (IntKind.u32.wrap (IntKind.u32.wrap (x : Int) * 65536)) (IntKind.u32.wrap (y : Int)) = (y : Int) + 65536 * x := by
  rw [u32_wrap_id (x : Int) (by omega) (by omega), u32_wrap_id (y : Int) (by omega) (by omega), u32_wrap_id ((x : Int) * 65536) (by omega) (by omega), bits_or_comm, u32_or16 _ _ (by omega) (by omega) (by omega) (by omega) (by omega)]
  omega
theorem or64 (x y : Nat) (hx : x < 4294967296) (hy : y < 4294967296) : bits .or .u64 (IntKind.u64.wrap (IntKind.u64.wrap (x : Int) * 4294967296)) (IntKind.u64.wrap (y : Int)) = (y : Int) + 4294967296 * x := by
  rw [u64_wrap_id (x : Int) (by omega) (by omega), u64_wrap_id (y : Int) (by omega) (by omega), u64_wrap_id ((x : Int) * 4294967296) (by omega) (by omega), bits_or_comm, u64_or32 _ _ (by omega) (by omega) (by omega) (by omega) (by omega)]
  omega
theorem leV_lt (l : List UInt8) : leV l < 256 ^ l.length := by
  induction l with
  | nil => simp [leV]
  | cons x l ih =>
    have := x.toNat_lt
    simp only [leV, List.length_cons, Nat.pow_succ]
    omega
theorem numV_lt (big : Bool) (l : List UInt8) : numV big l < 256 ^ l.length := by
  have := leV_lt (if big then l.reverse else l)
  unfold numV
  cases big <;> simpa using this
theorem leV_append (l m : List UInt8) : leV (l ++ m) = leV l + 256 ^ l.length * leV m := by
  induction l with
  | nil => simp [leV]
  | cons x l ih =>
    simp only [List.cons_append, leV, ih, List.length_cons, Nat.pow_succ]
    rw [Nat.mul_add, ← Nat.mul_assoc, Nat.mul_comm 256 (256 ^ l.length)]
    omega
theorem numV_le (l m : List UInt8) : numV false (l ++ m) = numV false l + 256 ^ l.length * numV false m := by simp [numV, leV_append]
theorem numV_be (l m : List UInt8) : numV true (l ++ m) = numV true m + 256 ^ m.length * numV true l := by simp [numV, leV_append]

set_option maxRecDepth 100000 in
set_option maxHeartbeats 1000000 in
theorem uint16_any (big : Bool) (b o n c : Nat) (l : List UInt8) (w : World) (hl : l.length = 2) (hm : Mem w b o l) (hn : 2 ≤ n) :
    Calls Tryz.prog 59 #[.agg #[.bool big], .slice (some ⟨b, o, none⟩) n c] w fun e w' => e = .returned (.int .u16 (numV big l)) ∧ Below w.heap.size w w' := by
  obtain ⟨x0, x1, rfl⟩ : ∃ x0 x1, l = [x0, x1] := by
    match l, hl with
    | [a, b], _ => exact ⟨a, b, rfl⟩
  have h0 := hm 0 (by simp)
  have h1 := hm 1 (by simp)
  simp only [List.getElem_cons_zero, List.getElem_cons_succ, Nat.add_zero] at h0 h1
  have hlt : b < w.heap.size := World.block_lt_of_cell? w _ h0
  have HB := Lib.hid (fun o => (Below.refl w.heap.size w).alloc (Nat.le_refl _) o)
  have hx0 := x0.toNat_lt
  have hx1 := x1.toNat_lt
  have E0 := Lib.hid (or16 x1.toNat x0.toNat hx1 hx0)
  have E1 := Lib.hid (or16 x0.toNat x1.toNat hx0 hx1)
  have EF : Hid (((numV false [x0, x1] : Nat) : Int) = (x0.toNat : Int) + 256 * x1.toNat) := Lib.hid (by simp [numV, leV])
  have ET : Hid (((numV true [x0, x1] : Nat) : Int) = (x1.toNat : Int) + 256 * x0.toNat) := Lib.hid (by simp [numV, leV])
  clear hm hx0 hx1 hl
  cases big
  · go_enter Tryz.func59, Tryz.ntmps59
    go_wp2_with fail
    generalize hW : w.alloc (.cells #[.bool false] 133) = W
    have hWb : Below w.heap.size w W := by rw [← hW]; exact HB.out _
    have g0 := (hWb.cell (p := ⟨b, o, none⟩) hlt).trans h0
    have g1 := (hWb.cell (p := ⟨b, o + 1, none⟩) hlt).trans h1
    have hltW : b < W.heap.size := Nat.lt_of_lt_of_le hlt hWb.size
    clear h0 h1 hW
    refine wp_region_det (fun wi => Below W.heap.size W wi) (by kernel_rfl) (by kernel_rfl) (Below.refl _ _).drew ?_
    iterate 11 (first
      | (refine wpDet_skip (by rfl) ?_; simp only [Act.put, List.setIfInBounds_toArray, List.set_cons_succ, List.set_cons_zero])
      | (apply wpDet_step
         · rfl
         · (intro wi hi K hK; have hc := (bcell hi).1; go_wp2_with fail
            all_goals first
            | exact hK _ hi
            | exact hi)
         · kernel_rfl))
    refine wpDet_nil (fun wi hi => ?_)
    go_wp2_with fail
    go_ret
    exact ⟨by rw [EF.out, ← E0.out]; rfl, below_next2 hWb hi⟩
  · go_enter Tryz.func59, Tryz.ntmps59
    go_wp2_with fail
    generalize hW : w.alloc (.cells #[.bool true] 133) = W
    have hWb : Below w.heap.size w W := by rw [← hW]; exact HB.out _
    have g0 := (hWb.cell (p := ⟨b, o, none⟩) hlt).trans h0
    have g1 := (hWb.cell (p := ⟨b, o + 1, none⟩) hlt).trans h1
    have hltW : b < W.heap.size := Nat.lt_of_lt_of_le hlt hWb.size
    clear h0 h1 hW
    refine wp_region_det (fun wi => Below W.heap.size W wi) (by kernel_rfl) (by kernel_rfl) (Below.refl _ _).drew ?_
    iterate 11 (first
      | (refine wpDet_skip (by rfl) ?_; simp only [Act.put, List.setIfInBounds_toArray, List.set_cons_succ, List.set_cons_zero])
      | (apply wpDet_step
         · rfl
         · (intro wi hi K hK; have hc := (bcell hi).1; go_wp2_with fail
            all_goals first
            | exact hK _ hi
            | exact hi)
         · kernel_rfl))
    refine wpDet_nil (fun wi hi => ?_)
    go_wp2_with fail
    go_ret
    exact ⟨by rw [ET.out, ← E1.out]; rfl, below_next2 hWb hi⟩

set_option maxRecDepth 100000 in
set_option maxHeartbeats 1000000 in
theorem uint32_any (big : Bool) (b o n c : Nat) (l : List UInt8) (w : World) (hl : l.length = 4) (hm : Mem w b o l) (hn : 4 ≤ n) (hc : n ≤ c) :
    Calls Tryz.prog 70 #[.agg #[.bool big], .slice (some ⟨b, o, none⟩) n c] w fun e w' => e = .returned (.int .u32 (numV big l)) ∧ Below w.heap.size w w' := by
  obtain ⟨l1, l2, hl1, hl2, rfl⟩ : ∃ l1 l2 : List UInt8, l1.length = 2 ∧ l2.length = 2 ∧ l = l1 ++ l2 := ⟨l.take 2, l.drop 2, by simp; omega, by simp; omega, by simp⟩
  have m1 := hm.left
  have m2 := hm.right
  rw [hl1] at m2
  have hlt : b < w.heap.size := World.block_lt_of_cell? w _ (m1 0 (by omega))
  have HB := Lib.hid (fun o => (Below.refl w.heap.size w).alloc (Nat.le_refl _) o)
  have v1 := fun g => numV_lt g l1
  have v2 := fun g => numV_lt g l2
  rw [hl1] at v1
  rw [hl2] at v2
  have E0 := Lib.hid (or32 (numV false l2) (numV false l1) (v2 _) (v1 _))
  have E1 := Lib.hid (or32 (numV true l1) (numV true l2) (v1 _) (v2 _))
  have EF : Hid (((numV false (l1 ++ l2) : Nat) : Int) = (numV false l1 : Int) + 65536 * numV false l2) := Lib.hid (by rw [numV_le, hl1]; simp only [Nat.reducePow]; omega)
  have ET : Hid (((numV true (l1 ++ l2) : Nat) : Int) = (numV true l2 : Int) + 65536 * numV true l1) := Lib.hid (by rw [numV_be, hl2]; simp only [Nat.reducePow]; omega)
  have HL1 := Lib.hid hl1
  have HL2 := Lib.hid hl2
  have M1 := Lib.hid m1
  have M2 := Lib.hid m2
  clear hm v1 v2 hl hl1 hl2 m1 m2
  cases big
  · go_enter Tryz.func70, Tryz.ntmps70
    go_wp2_with fail
    generalize hW : w.alloc (.cells #[.bool false] 133) = W
    have hWb : Below w.heap.size w W := by rw [← hW]; exact HB.out _
    have g0 : W.cell? ⟨w.heap.size, 0, none⟩ = some (.bool false) := by rw [← hW]; simp
    have hs : w.heap.size < W.heap.size := by rw [← hW]; simp
    have hltW : b < W.heap.size := Nat.lt_of_lt_of_le hlt hWb.size
    clear hW
    refine wp_region_det (fun wi => Below W.heap.size W wi) (by kernel_rfl) (by kernel_rfl) (Below.refl _ _).drew ?_
    iterate 12 (first
      | (refine wpDet_skip (by rfl) ?_; simp only [Act.put, List.setIfInBounds_toArray, List.set_cons_succ, List.set_cons_zero])
      | (apply wpDet_step
         · rfl
         · (intro wi hi K hK; have hc := (bcell hi).1; go_wp2_with fail
            all_goals first
            | exact hK _ hi
            | exact hi
            | (go_at_call 59; (with_reducible refine (uint16_any false b (o) n c l1 _ HL1.out ((M1.out.keep hlt hWb).keep hltW hi) (by omega)).mono ?_); rintro e w5 ⟨rfl, hb5⟩; go_wp2_with fail; all_goals first | exact hK _ (below_next2 hi hb5) | exact below_next2 hi hb5)
            | (go_at_call 59; (with_reducible refine (uint16_any false b (o + 2) 2 (c - 2) l2 _ HL2.out ((M2.out.keep hlt hWb).keep hltW hi) (by omega)).mono ?_); rintro e w5 ⟨rfl, hb5⟩; go_wp2_with fail; all_goals first | exact hK _ (below_next2 hi hb5) | exact below_next2 hi hb5))
         · kernel_rfl))
    refine wpDet_nil (fun wi hi => ?_)
    go_wp2_with fail
    go_ret
    exact ⟨by rw [EF.out, ← E0.out]; rfl, below_next2 hWb hi⟩
  · go_enter Tryz.func70, Tryz.ntmps70
    go_wp2_with fail
    generalize hW : w.alloc (.cells #[.bool true] 133) = W
    have hWb : Below w.heap.size w W := by rw [← hW]; exact HB.out _
    have g0 : W.cell? ⟨w.heap.size, 0, none⟩ = some (.bool true) := by rw [← hW]; simp
    have hs : w.heap.size < W.heap.size := by rw [← hW]; simp
    have hltW : b < W.heap.size := Nat.lt_of_lt_of_le hlt hWb.size
    clear hW
    refine wp_region_det (fun wi => Below W.heap.size W wi) (by kernel_rfl) (by kernel_rfl) (Below.refl _ _).drew ?_
    iterate 12 (first
      | (refine wpDet_skip (by rfl) ?_; simp only [Act.put, List.setIfInBounds_toArray, List.set_cons_succ, List.set_cons_zero])
      | (apply wpDet_step
         · rfl
         · (intro wi hi K hK; have hc := (bcell hi).1; go_wp2_with fail
            all_goals first
            | exact hK _ hi
            | exact hi
            | (go_at_call 59; (with_reducible refine (uint16_any true b (o) n c l1 _ HL1.out ((M1.out.keep hlt hWb).keep hltW hi) (by omega)).mono ?_); rintro e w5 ⟨rfl, hb5⟩; go_wp2_with fail; all_goals first | exact hK _ (below_next2 hi hb5) | exact below_next2 hi hb5)
            | (go_at_call 59; (with_reducible refine (uint16_any true b (o + 2) 2 (c - 2) l2 _ HL2.out ((M2.out.keep hlt hWb).keep hltW hi) (by omega)).mono ?_); rintro e w5 ⟨rfl, hb5⟩; go_wp2_with fail; all_goals first | exact hK _ (below_next2 hi hb5) | exact below_next2 hi hb5))
         · kernel_rfl))
    refine wpDet_nil (fun wi hi => ?_)
    go_wp2_with fail
    go_ret
    exact ⟨by rw [ET.out, ← E1.out]; rfl, below_next2 hWb hi⟩

set_option maxRecDepth 100000 in
set_option maxHeartbeats 1000000 in
theorem uint64_any (big : Bool) (b o n c : Nat) (l : List UInt8) (w : World) (hl : l.length = 8) (hm : Mem w b o l) (hn : 8 ≤ n) (hc : n ≤ c) :
    Calls Tryz.prog 84 #[.agg #[.bool big], .slice (some ⟨b, o, none⟩) n c] w fun e w' => e = .returned (.int .u64 (numV big l)) ∧ Below w.heap.size w w' := by
  obtain ⟨l1, l2, hl1, hl2, rfl⟩ : ∃ l1 l2 : List UInt8, l1.length = 4 ∧ l2.length = 4 ∧ l = l1 ++ l2 := ⟨l.take 4, l.drop 4, by simp; omega, by simp; omega, by simp⟩
  have m1 := hm.left
  have m2 := hm.right
  rw [hl1] at m2
  have hlt : b < w.heap.size := World.block_lt_of_cell? w _ (m1 0 (by omega))
  have HB := Lib.hid (fun o => (Below.refl w.heap.size w).alloc (Nat.le_refl _) o)
  have v1 := fun g => numV_lt g l1
  have v2 := fun g => numV_lt g l2
  rw [hl1] at v1
  rw [hl2] at v2
  have E0 := Lib.hid (or64 (numV false l2) (numV false l1) (v2 _) (v1 _))
  have E1 := Lib.hid (or64 (numV true l1) (numV true l2) (v1 _) (v2 _))
  have EF : Hid (((numV false (l1 ++ l2) : Nat) : Int) = (numV false l1 : Int) + 4294967296 * numV false l2) := Lib.hid (by rw [numV_le, hl1]; simp only [Nat.reducePow]; omega)
  have ET : Hid (((numV true (l1 ++ l2) : Nat) : Int) = (numV true l2 : Int) + 4294967296 * numV true l1) := Lib.hid (by rw [numV_be, hl2]; simp only [Nat.reducePow]; omega)
  have HL1 := Lib.hid hl1
  have HL2 := Lib.hid hl2
  have M1 := Lib.hid m1
  have M2 := Lib.hid m2
  clear hm v1 v2 hl hl1 hl2 m1 m2
  cases big
  · go_enter Tryz.func84, Tryz.ntmps84
    go_wp2_with fail
    generalize hW : w.alloc (.cells #[.bool false] 133) = W
    have hWb : Below w.heap.size w W := by rw [← hW]; exact HB.out _
    have g0 : W.cell? ⟨w.heap.size, 0, none⟩ = some (.bool false) := by rw [← hW]; simp
    have hs : w.heap.size < W.heap.size := by rw [← hW]; simp
    have hltW : b < W.heap.size := Nat.lt_of_lt_of_le hlt hWb.size
    clear hW
    refine wp_region_det (fun wi => Below W.heap.size W wi) (by kernel_rfl) (by kernel_rfl) (Below.refl _ _).drew ?_
    iterate 12 (first
      | (refine wpDet_skip (by rfl) ?_; simp only [Act.put, List.setIfInBounds_toArray, List.set_cons_succ, List.set_cons_zero])
      | (apply wpDet_step
         · rfl
         · (intro wi hi K hK; have hc := (bcell hi).1; go_wp2_with fail
            all_goals first
            | exact hK _ hi
            | exact hi
            | (go_at_call 70; (with_reducible refine (uint32_any false b (o) n c l1 _ HL1.out ((M1.out.keep hlt hWb).keep hltW hi) (by omega) (by omega)).mono ?_); rintro e w5 ⟨rfl, hb5⟩; go_wp2_with fail; all_goals first | exact hK _ (below_next2 hi hb5) | exact below_next2 hi hb5)
            | (go_at_call 70; (with_reducible refine (uint32_any false b (o + 4) 4 (c - 4) l2 _ HL2.out ((M2.out.keep hlt hWb).keep hltW hi) (by omega) (by omega)).mono ?_); rintro e w5 ⟨rfl, hb5⟩; go_wp2_with fail; all_goals first | exact hK _ (below_next2 hi hb5) | exact below_next2 hi hb5))
         · kernel_rfl))
    refine wpDet_nil (fun wi hi => ?_)
    go_wp2_with fail
    go_ret
    exact ⟨by rw [EF.out, ← E0.out]; rfl, below_next2 hWb hi⟩
  · go_enter Tryz.func84, Tryz.ntmps84
    go_wp2_with fail
    generalize hW : w.alloc (.cells #[.bool true] 133) = W
    have hWb : Below w.heap.size w W := by rw [← hW]; exact HB.out _
    have g0 : W.cell? ⟨w.heap.size, 0, none⟩ = some (.bool true) := by rw [← hW]; simp
    have hs : w.heap.size < W.heap.size := by rw [← hW]; simp
    have hltW : b < W.heap.size := Nat.lt_of_lt_of_le hlt hWb.size
    clear hW
    refine wp_region_det (fun wi => Below W.heap.size W wi) (by kernel_rfl) (by kernel_rfl) (Below.refl _ _).drew ?_
    iterate 12 (first
      | (refine wpDet_skip (by rfl) ?_; simp only [Act.put, List.setIfInBounds_toArray, List.set_cons_succ, List.set_cons_zero])
      | (apply wpDet_step
         · rfl
         · (intro wi hi K hK; have hc := (bcell hi).1; go_wp2_with fail
            all_goals first
            | exact hK _ hi
            | exact hi
            | (go_at_call 70; (with_reducible refine (uint32_any true b (o) n c l1 _ HL1.out ((M1.out.keep hlt hWb).keep hltW hi) (by omega) (by omega)).mono ?_); rintro e w5 ⟨rfl, hb5⟩; go_wp2_with fail; all_goals first | exact hK _ (below_next2 hi hb5) | exact below_next2 hi hb5)
            | (go_at_call 70; (with_reducible refine (uint32_any true b (o + 4) 4 (c - 4) l2 _ HL2.out ((M2.out.keep hlt hWb).keep hltW hi) (by omega) (by omega)).mono ?_); rintro e w5 ⟨rfl, hb5⟩; go_wp2_with fail; all_goals first | exact hK _ (below_next2 hi hb5) | exact below_next2 hi hb5))
         · kernel_rfl))
    refine wpDet_nil (fun wi hi => ?_)
    go_wp2_with fail
    go_ret
    exact ⟨by rw [ET.out, ← E1.out]; rfl, below_next2 hWb hi⟩
end Go.Proofs.YtoedlabfiialfaaGreat
