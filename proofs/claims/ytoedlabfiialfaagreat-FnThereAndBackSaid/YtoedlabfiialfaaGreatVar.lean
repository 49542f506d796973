/-
  The walks through the writers of runs of the reference: varint, pairs.
-/
import Derived.Test.YtoedlabfiialfaaGreatNum
import Derived.Maps.AppendAt
namespace Go.Proofs.YtoedlabfiialfaaGreat
open Go.RowKit

theorem ownsRow_len {w : World} {base : Nat} {e : TypeId} {v : Value} {n m : Nat} {xs ys : List Value} (h : w.ownsRow base e 1 v n xs) (hn : n = m) (hx : xs = ys) : w.ownsRow base e 1 v m ys := by subst hn hx; exact h
/-- a row that is owned and holds something is a slice -/
theorem ownsRow_slice {w : World} {base : Nat} {e : TypeId} {v : Value} {n : Nat} {xs : List Value} (h : w.ownsRow base e 1 v n xs) (hn : 0 < n) : ∃ g cap, v = .slice (some ⟨g, 0, none⟩) n cap ∧ base ≤ g := by
  rcases h.2 with ⟨_, h⟩ | ⟨g, c, cur, hv, hg, _⟩
  · omega
  · exact ⟨g, c, hv, hg⟩
theorem Wrote.mk' {l : List UInt8} {w w' : World} {v : Value} {n : Nat} {xs : List Value}
    (hrow : w'.ownsRow w.heap.size 5 1 v n xs) (hn : n = l.length) (hxs : xs = l.map bv) (hl : 0 < l.length) (hb : Below w.heap.size w w') : Wrote l w (.returned v) w' := by
  obtain ⟨g, cap, hv, hg⟩ := ownsRow_slice hrow (by omega)
  rw [hv] at hrow
  exact Wrote.mk hv hn hg hrow hxs hb

theorem byte1 (x : Int) : ∀ u ∈ [Value.int .u8 x], u.oneCell' = true := by
  intro u hu
  obtain rfl := List.mem_singleton.1 hu
  rfl
theorem byte_lo (m : Nat) : (m : Int) % 128 + 128 = ((UInt8.ofNat (m % 128 + 128)).toNat : Int) := by
  rw [UInt8.toNat_ofNat']; omega
theorem byte_small (m : Nat) (h : m < 128) : (m : Int) = ((UInt8.ofNat m).toNat : Int) := by
  rw [UInt8.toNat_ofNat']; omega

set_option maxRecDepth 100000 in
set_option maxHeartbeats 1000000 in
theorem varint_any (n : Nat) (w : World) (hn : n < 4294967296) :
    Calls Tryz.prog 50 #[.int .u32 n] w (Wrote (varB n) w) := by
  have HN5 := Lib.hid (varB_le5 n hn)
  obtain ⟨i0, hi, hz0, hz1, hz2⟩ := info_parts infoByte
  have HI := Lib.hid hi
  have HZ0 := Lib.hid hz0
  have HZ1 := Lib.hid hz1
  have HZ2 := Lib.hid hz2
  clear hi hz0 hz1 hz2
  go_enter Tryz.func50, Tryz.ntmps50
  go_wp2_with fail
  go_loopw [0, 3] (fun x v wr => ∃ (m : Nat) (xs : List UInt8), m < 4294967296 ∧ x = .int .u32 m ∧ xs ++ varB m = varB n ∧ wr.ownsRow w.heap.size 5 1 v xs.length (xs.map bv) ∧ Below w.heap.size w wr) (fun x _ _ => (intOf x).toNat)
  case atStart => exact ⟨n, [], hn, rfl, rfl, World.ownsRow_nil _ _ _ _, Below.refl _ _⟩
  case round =>
    obtain ⟨m, xs, hm, rfl, hxs, hown, hb⟩ := hrel
    have HX := Lib.hid hxs
    have hlen : xs.length + (varB m).length ≤ 5 := by have := congrArg List.length hxs; have h5 := HN5.out; simp at this; omega
    clear hxs
    have hvp := varB_pos m
    by_cases hbig : 128 ≤ m
    · have HXN : Hid ((xs ++ [UInt8.ofNat (m % 128 + 128)]) ++ varB (m / 128) = varB n) := by
        have := HX.out
        rw [varB_big hbig] at this
        refine Lib.hid ?_; rw [← this]; simp
      have HV := Lib.hid (byte_lo m)
      clear hvp
      have hbs := hb.size
      go_wp2_with (first
        | (at_builtin; with_reducible refine wpList_append_own _ rfl _ _ 31 rfl w.heap.size 5 i0 (.int .u8 0) 1 1 Tryz.underlying31 HI.out HZ0.out HZ1.out HZ2.out rfl (by decide) _ _ _ rfl (hown.alloc _) ⟨wr.heap.size, 0, none⟩ 1 1 [.int .u8 ((m : Int) % 128 + 128)] rfl rfl (cell_one_new _ _ _) (byte1 _) (by unfold maxLen; omega) (by omega) (by simp; omega) ?_; intro v1 w1 hown1 hgrow1 _))
      have hb1 : Below w.heap.size w w1 := (hb.alloc hbs _).grown hgrow1 (by simp; omega) (fun k hk => (hown.lt k hk).1)
      exact ⟨⟨m / 128, _, by omega, by go_num, HXN.out, ownsRow_len hown1 (by simp) (by rw [HV.out, List.map_append]; rfl), hb1⟩, by simp [intOf]; omega⟩
    · have HX2 := Lib.hid (show xs ++ [UInt8.ofNat m] = varB n by rw [← HX.out, varB_small (by omega)])
      have HV := Lib.hid (byte_small m (by omega))
      have hbs := hb.size
      clear hvp
      go_wp2_with (first
        | (at_builtin; with_reducible refine wpList_append_own _ rfl _ _ 31 rfl w.heap.size 5 i0 (.int .u8 0) 1 1 Tryz.underlying31 HI.out HZ0.out HZ1.out HZ2.out rfl (by decide) _ _ _ rfl (hown.alloc _) ⟨wr.heap.size, 0, none⟩ 1 1 [.int .u8 (m : Int)] rfl rfl (cell_one_new _ _ _) (byte1 _) (by unfold maxLen; omega) (by omega) (by simp; omega) ?_; intro v1 w1 hown1 hgrow1 _))
      have hb1 : Below w.heap.size w w1 := (hb.alloc hbs _).grown hgrow1 (by simp; omega) (fun k hk => (hown.lt k hk).1)
      go_wp2_with fail
      go_ret
      exact Wrote.mk' hown1 (by rw [← HX2.out]; simp) (by rw [← HX2.out, HV.out, List.map_append]; rfl) (varB_pos n) hb1
end Go.Proofs.YtoedlabfiialfaaGreat
