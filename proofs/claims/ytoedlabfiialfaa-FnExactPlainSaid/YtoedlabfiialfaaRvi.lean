/-
  The walk through readvarint.
-/
import Derived.Test.YtoedlabfiialfaaOrd
namespace Go.Proofs.Ytoedlabfiialfaa
open Go.RowKit

theorem slice_eq {b o1 o2 n1 n2 c1 c2 : Nat} (e1 : o1 = o2) (e2 : n1 = n2) (e3 : c1 = c2) : Value.slice (some ⟨b, o1, none⟩) n1 c1 = Value.slice (some ⟨b, o2, none⟩) n2 c2 := by subst e1 e2 e3; rfl
theorem hibit_fin : ∀ n : Fin 256, (bits .and .u8 (n.val : Int) 128 == 0) = decide (n.val < 128) := by decide +kernel
theorem hibit (x : UInt8) : (bits .and .u8 (x.toNat : Int) 128 == 0) = decide (x.toNat < 128) := hibit_fin ⟨x.toNat, x.toNat_lt⟩
theorem low7 (x : Nat) (hx : x < 4294967296) : bits .and .u32 (x : Int) 127 = ((x % 128 : Nat) : Int) := by
  have h := (bits_nat .u32 32 (by decide) wraps_u32 x 127 (by omega) (by omega)).1
  rw [show ((127 : Nat) : Int) = 127 by rfl] at h
  rw [h, show (127 : Nat) = 2 ^ 7 - 1 by rfl, Nat.and_two_pow_sub_one_eq_mod]
theorem or_place (a m j : Nat) (ha : a < 2 ^ j) (hs : 2 ^ j * m + a < 4294967296) : bits .or .u32 (a : Int) ((2 ^ j * m : Nat) : Int) = ((2 ^ j * m + a : Nat) : Int) := by
  have h := (bits_nat .u32 32 (by decide) wraps_u32 a (2 ^ j * m) (by omega) (by omega)).2
  rw [h, Nat.or_comm, ← Nat.two_pow_add_eq_or_of_lt ha]
theorem p128 (j : Nat) : 128 ^ j = 2 ^ (7 * j) := by rw [show (128 : Nat) = 2 ^ 7 by rfl, ← Nat.pow_mul]
/-- one group of seven bits more -/
theorem vstep (N j x : Nat) (hN : N < 4294967296) (hx : x < 256) (hxm : x % 128 = N / 128 ^ j % 128) :
    bits .or .u32 ((N : Int) % 128 ^ j) (bits .and .u32 ((x : Int) % 4294967296) 127 * 2 ^ (7 * j) % 4294967296) = ((N % 128 ^ (j + 1) : Nat) : Int) := by
  have e1 : (x : Int) % 4294967296 = (x : Int) := by omega
  have hsum : 2 ^ (7 * j) * (x % 128) + N % 2 ^ (7 * j) = N % 128 ^ (j + 1) := by
    rw [Nat.pow_succ, Nat.mod_mul, hxm, ← p128]
    omega
  have hle : N % 128 ^ (j + 1) ≤ N := Nat.mod_le _ _
  have e2 : ((x % 128 : Nat) : Int) * 2 ^ (7 * j) % 4294967296 = ((2 ^ (7 * j) * (x % 128) : Nat) : Int) := by
    have : ((x % 128 : Nat) : Int) * 2 ^ (7 * j) = ((2 ^ (7 * j) * (x % 128) : Nat) : Int) := by push_cast; rw [Int.mul_comm]
    rw [this]
    have : 2 ^ (7 * j) * (x % 128) < 4294967296 := by omega
    omega
  have e3 : (N : Int) % 128 ^ j = ((N % 2 ^ (7 * j) : Nat) : Int) := by rw [← p128]; push_cast; rfl
  rw [e1, low7 x (by omega), e2, e3, or_place _ _ _ (Nat.mod_lt _ (Nat.pow_pos (by omega))) (by omega), hsum]
theorem varB_mem {w : World} {b o M : Nat} (h : Mem w b o (varB M)) (hb : 128 ≤ M) : Mem w b (o + 1) (varB (M / 128)) := by
  rw [varB_big hb] at h
  exact Mem.right (x := [UInt8.ofNat (M % 128 + 128)]) h

set_option maxRecDepth 100000 in
set_option maxHeartbeats 2000000 in
theorem readvarint_any (T : Value) (pp b o n c N : Nat) (w : World) (hN : N < 4294967296) (hc : w.cell? ⟨pp, 0, none⟩ = some (.slice (some ⟨b, o, none⟩) n c)) (hf : w.frozen? ⟨pp, 0, none⟩ = false)
    (hm : Mem w b o (varB N)) (hn : (varB N).length < n) (hnc : n ≤ c) (_ : c ≤ maxLen) :
    Calls Try.prog 88 #[T, .pointer (some ⟨pp, 0, none⟩)] w fun e w' => e = .returned (.int .u32 N) ∧
      w' = w.setCell ⟨pp, 0, none⟩ (.slice (some ⟨b, o + (varB N).length, none⟩) (n - (varB N).length) (c - (varB N).length)) := by
  have HM := Lib.hid hm
  have HL5 := Lib.hid (varB_le5 N hN)
  have HN := Lib.hid hN
  clear hm hN
  go_enter Try.func88, Try.ntmps88
  go_wp2_with fail
  go_loop [5, 6, 7] (fun v s p => ∃ (j M : Nat), M = N / 128 ^ j ∧ j + (varB M).length = (varB N).length ∧ v = .int .u32 ((N % 128 ^ j : Nat) : Int) ∧ s = .int .u32 ((7 * j : Nat) : Int) ∧ p = .slice (some ⟨b, o + j, none⟩) (n - j) (c - j) ∧ Mem w b (o + j) (varB M)) (fun _ s _ => 35 - (intOf s).toNat)
  case atStart => exact ⟨0, N, by simp, by simp, by simp [Nat.mod_one], rfl, rfl, HM.out⟩
  case round =>
    obtain ⟨j, M, hM, hj, rfl, rfl, rfl, hmem⟩ := hrel
    have h0 := hmem 0 (varB_pos M)
    rw [Nat.add_zero] at h0
    have HMEM := Lib.hid hmem
    have HMM := Lib.hid hM
    have hvp := varB_pos M
    have hl5 := HL5.out
    have HJ := Lib.hid hj
    have hj5 : j ≤ 4 := by omega
    have hjn : j + 1 < n := by omega
    clear hmem hM hj
    by_cases hbig : 128 ≤ M
    · have hb0 : (varB M)[0]'hvp = UInt8.ofNat (M % 128 + 128) := by simp [varB_big hbig]
      rw [hb0] at h0
      have hxn : (UInt8.ofNat (M % 128 + 128)).toNat = M % 128 + 128 := by rw [UInt8.toNat_ofNat']; omega
      have HXN := Lib.hid hxn
      have ht : (bits .and .u8 ((UInt8.ofNat (M % 128 + 128)).toNat : Int) 128 == 0) = false := by rw [hibit, hxn]; simp
      have HV := Lib.hid (vstep N j (UInt8.ofNat (M % 128 + 128)).toNat HN.out (UInt8.toNat_lt _) (by rw [hxn, ← HMM.out]; omega))
      have HLN : Hid (j + 1 + (varB (M / 128)).length = (varB N).length) := by
        have := HJ.out
        rw [varB_big hbig] at this
        refine Lib.hid ?_
        simp at this
        omega
      generalize UInt8.ofNat (M % 128 + 128) = x at *
      clear hb0 hxn
      go_wp2_with fail
      exact ⟨⟨j + 1, M / 128, by rw [HMM.out, Nat.div_div_eq_div_mul, Nat.pow_succ], HLN.out, by rw [HV.out], by congr 1, slice_eq (by omega) (by omega) (by omega), varB_mem HMEM.out hbig⟩, by simp [intOf]; omega⟩
    · have hb0 : (varB M)[0]'hvp = UInt8.ofNat M := by simp [varB_small (show M < 128 by omega)]
      rw [hb0] at h0
      have hxn : (UInt8.ofNat M).toNat = M := by rw [UInt8.toNat_ofNat']; omega
      have ht : (bits .and .u8 ((UInt8.ofNat M).toNat : Int) 128 == 0) = true := by rw [hibit, hxn]; simp; omega
      have HV := Lib.hid (vstep N j (UInt8.ofNat M).toNat HN.out (UInt8.toNat_lt _) (by rw [hxn, ← HMM.out]))
      have hmod : N % 128 ^ (j + 1) = N := by
        refine Nat.mod_eq_of_lt ?_
        have h1 : N / 128 ^ j < 128 := by rw [← HMM.out]; omega
        rw [Nat.div_lt_iff_lt_mul (Nat.pow_pos (by omega))] at h1
        rw [Nat.pow_succ, Nat.mul_comm]
        exact h1
      have HMOD := Lib.hid hmod
      have hlen : j + 1 = (varB N).length := by have := HJ.out; rw [varB_small (show M < 128 by omega)] at this; simpa using this
      have HLEN := Lib.hid hlen
      generalize UInt8.ofNat M = x at *
      clear hb0 hxn hmod hlen
      go_wp2_with fail
      go_ret
      exact ⟨by rw [HV.out, HMOD.out]; rfl, by rw [slice_eq (show o + j + 1 = o + (varB N).length by have := HLEN.out; omega) (show n - j - 1 = n - (varB N).length by have := HLEN.out; omega) (show c - j - 1 = c - (varB N).length by have := HLEN.out; omega)]⟩
/-- a nought at the very end of the bytes -/
theorem readvarint_zero (T : Value) (pp b o n c : Nat) (w : World) (hc : w.cell? ⟨pp, 0, none⟩ = some (.slice (some ⟨b, o, none⟩) n c)) (hf : w.frozen? ⟨pp, 0, none⟩ = false)
    (hm : Mem w b o [0]) (hn : 0 < n) (_ : n ≤ c) (_ : c ≤ maxLen) :
    Calls Try.prog 88 #[T, .pointer (some ⟨pp, 0, none⟩)] w fun e w' => e = .returned (.int .u32 0) ∧ ∃ v, w' = w.setCell ⟨pp, 0, none⟩ v := by
  have h0 := hm 0 (by simp)
  simp only [List.getElem_cons_zero, Nat.add_zero] at h0
  clear hm
  go_enter Try.func88, Try.ntmps88
  go_wp2_with fail
  go_loop [5, 6, 7] (fun v s p => v = .int .u32 0 ∧ s = .int .u32 0 ∧ p = .slice (some ⟨b, o, none⟩) n c) (fun _ _ _ => 0)
  case atStart => exact ⟨rfl, rfl, rfl⟩
  case round =>
    obtain ⟨rfl, rfl, rfl⟩ := hrel
    have hb1 : (bits .and .u8 0 128 == 0) = true := by decide
    have hb2 : bits BinOp.or IntKind.u32 0 (bits BinOp.and IntKind.u32 0 127 % 4294967296) = 0 := by decide
    have h0' : w.cell? ⟨b, o, none⟩ = some (.int .u8 0) := h0
    clear h0
    go_wp2_with fail
    · go_ret
      exact ⟨rfl, _, rfl⟩
    · go_ret
      exact ⟨rfl, _, rfl⟩
end Go.Proofs.Ytoedlabfiialfaa
