/-
  The walks through PCToFunc, LookupFunc and the thin package's name: a function of a table by its place, by its name.
-/
import Derived.Test.YtoedlabfiialfaaNtb
import Derived.Test.YtoedlabfiialfaaFits
namespace Go.Proofs.Ytoedlabfiialfaa
open Go.RowKit

/-- the functions in memory -/
structure FnRows (w : World) (fb sb : Nat) (p : Pg) : Prop where
  lf : fb < w.heap.size
  ls : sb < w.heap.size
  e : ∀ j, j < p.funcs.length → w.cell? ⟨fb, j * 8, none⟩ = some (.int .u64 (bndN p j))
  s : ∀ j, j < p.funcs.length → w.cell? ⟨fb, j * 8 + 1, none⟩ = some (.pointer (some ⟨sb, j * 6, none⟩))
  z : ∀ j, j < p.funcs.length → w.cell? ⟨fb, j * 8 + 2, none⟩ = some (.int .u64 (bndN p (j + 1)))
  fz : ∀ j, j < p.funcs.length → w.cell? ⟨fb, j * 8 + 5, none⟩ = some (.int .i64 (p.funcs.getD j default).frame)
  n : ∀ j, j < p.funcs.length → w.cell? ⟨sb, j * 6 + 2, none⟩ = some (.string (p.funcs.getD j default).name)
theorem TbOk.rows {w : World} {base tb lt db c b1 b2 b3 bf fb sb : Nat} {p : Pg} (h : TbOk w base tb lt db c b1 b2 b3 bf fb sb p) : FnRows w fb sb p := by
  obtain ⟨fr, sr, h1, h2, _, h3⟩ := h.fs
  refine ⟨(Array.getElem?_eq_some_iff.1 h1).1, (Array.getElem?_eq_some_iff.1 h2).1, fun j hj => ?_, fun j hj => ?_, fun j hj => ?_, fun j hj => ?_, fun j hj => ?_⟩
  · rw [cell_of_row w fb _ _ _ _ h1]; exact (h3 j hj).1
  · rw [cell_of_row w fb _ _ _ _ h1]; exact (h3 j hj).2.1
  · rw [cell_of_row w fb _ _ _ _ h1]; exact (h3 j hj).2.2.1
  · rw [cell_of_row w fb _ _ _ _ h1]; exact (h3 j hj).2.2.2.1
  · rw [cell_of_row w sb _ _ _ _ h2]; exact (h3 j hj).2.2.2.2
/-- the table's own cells that are read -/
structure TbRow (w : World) (tb lt fb bf : Nat) (p : Pg) : Prop where
  c1 : w.cell? ⟨tb, 1, none⟩ = some (.slice (some ⟨fb, 0, none⟩) p.funcs.length p.funcs.length)
  c2 : w.cell? ⟨tb, 2, none⟩ = some (.map (some bf))
  c4 : w.cell? ⟨tb, 4, none⟩ = some (.pointer (some ⟨lt, 0, none⟩))
  l : tb < w.heap.size
theorem TbOk.cells {w : World} {base tb lt db c b1 b2 b3 bf fb sb : Nat} {p : Pg} (h : TbOk w base tb lt db c b1 b2 b3 bf fb sb p) : TbRow w tb lt fb bf p := by
  obtain ⟨s0, s3, hr⟩ := h.row
  exact ⟨cell_of_row w _ 1 _ _ _ hr, cell_of_row w _ 2 _ _ _ hr, cell_of_row w _ 4 _ _ _ hr, (Array.getElem?_eq_some_iff.1 hr).1⟩

set_option maxRecDepth 100000 in
set_option maxHeartbeats 2000000 in
theorem pcToFunc_any (tb lt fb sb bf pc : Nat) (p : Pg) (w : World) (HW : WellP p) (ht : TbRow w tb lt fb bf p) (hr : FnRows w fb sb p) :
    Calls Try.prog 34 #[.pointer (some ⟨tb, 0, none⟩), .int .u64 pc] w fun e w' => w' = w ∧
      (((pc < bndN p 0 ∨ bndN p p.funcs.length ≤ pc) ∧ e = .returned (.pointer none)) ∨ ∃ k, k < p.funcs.length ∧ bndN p k ≤ pc ∧ pc < bndN p (k + 1) ∧ e = .returned (.pointer (some ⟨fb, k * 8, none⟩))) := by
  have t1 := ht.c1
  have tl := ht.l
  have hfl := HW.head.fl
  have hpos := HW.head.pos
  have HWH := Lib.hid HW
  have HR := Lib.hid hr
  have hlf := hr.lf
  clear ht HW hr
  go_enter Try.func34, Try.ntmps34
  go_wp2_with fail
  go_loop [5] (fun s => ∃ lo n o : Nat, lo + n ≤ p.funcs.length ∧ s = .slice (some ⟨fb, o, none⟩) n (p.funcs.length - lo) ∧ (0 < n → o = lo * 8) ∧ Hid (bndN p lo ≤ pc ∨ lo = 0) ∧ Hid (pc < bndN p (lo + n) ∨ lo + n = p.funcs.length)) (fun s => match s with | .slice _ n _ => n | _ => 0)
  case atStart => exact ⟨0, p.funcs.length, 0, by omega, rfl, fun _ => rfl, Lib.hid (.inr rfl), Lib.hid (.inr (by omega))⟩
  case round =>
    obtain ⟨lo, n, o, hn, rfl, ho, I1, I2⟩ := hrel
    rcases Nat.eq_zero_or_pos n with rfl | hn0
    · have HOut : Hid (pc < bndN p 0 ∨ bndN p p.funcs.length ≤ pc) := Lib.hid (by
        have h1 := I1.out
        have h2 := I2.out
        rw [Nat.add_zero] at h2
        rcases h1 with h1 | rfl
        · rcases h2 with h2 | rfl
          · omega
          · exact .inr h1
        · rcases h2 with h2 | h2
          · exact .inl h2
          · omega)
      clear ho
      go_wp2_with fail
      go_ret
      exact ⟨rfl, .inl ⟨HOut.out, rfl⟩⟩
    · obtain rfl := ho hn0
      obtain ⟨m, hm⟩ : ∃ m, n / 2 = m := ⟨_, rfl⟩
      have hmi : (n : Int) / 2 = (m : Int) := by omega
      have hmn : m < n := by omega
      clear hm ho
      have hj : lo + m < p.funcs.length := by omega
      have he : w.cell? ⟨fb, lo * 8 + m * 8, none⟩ = some (.int .u64 (bndN p (lo + m))) := by rw [← Nat.add_mul]; exact HR.out.e _ hj
      have hz : w.cell? ⟨fb, lo * 8 + m * 8 + 2, none⟩ = some (.int .u64 (bndN p (lo + m + 1))) := by rw [← Nat.add_mul]; exact HR.out.z _ hj
      obtain ⟨x, hx⟩ : ∃ x, bndN p (lo + m) = x := ⟨_, rfl⟩
      obtain ⟨y, hy⟩ : ∃ y, bndN p (lo + m + 1) = y := ⟨_, rfl⟩
      rw [hx] at he
      rw [hy] at hz
      have HXY := Lib.hid (And.intro hx hy)
      clear hx hy
      rcases Nat.lt_or_ge pc x with h1 | h1
      · have hd : decide ((pc : Int) < (x : Int)) = true := by simp; omega
        have hdn : decide (pc < x) = true := by simp; omega
        have H1 := Lib.hid h1
        clear h1
        go_wp2_with fail
        refine ⟨⟨lo, m, lo * 8, by omega, ?_, fun _ => rfl, I1, Lib.hid (.inl (by rw [HXY.out.1]; exact H1.out))⟩, ?_⟩
        · first | rfl | simp
        · show m < n
          exact hmn
      · have hd : decide ((pc : Int) < (x : Int)) = false := by simp; omega
        have hdn : decide (pc < x) = false := by simp; omega
        have hd2 : decide ((x : Int) ≤ (pc : Int)) = true := by simp; omega
        have hdn2 : decide (x ≤ pc) = true := by simp; omega
        have H1 := Lib.hid h1
        clear h1
        rcases Nat.lt_or_ge pc y with h2 | h2
        · have hd3 : decide ((pc : Int) < (y : Int)) = true := by simp; omega
          have hdn3 : decide (pc < y) = true := by simp; omega
          have H2 := Lib.hid h2
          clear h2
          go_wp2_with fail
          go_ret
          exact ⟨rfl, .inr ⟨lo + m, hj, by rw [HXY.out.1]; exact H1.out, by rw [HXY.out.2]; exact H2.out, by rw [Nat.add_mul]; rfl⟩⟩
        · have hd3 : decide ((pc : Int) < (y : Int)) = false := by simp; omega
          have hdn3 : decide (pc < y) = false := by simp; omega
          have H2 := Lib.hid h2
          clear h2
          go_wp2_with fail
          have e1 : lo + m + 1 + (n - (m + 1)) = lo + n := by omega
          have e2 : p.funcs.length - lo - (m + 1) = p.funcs.length - (lo + m + 1) := by omega
          have I3 : Hid (bndN p (lo + m + 1) ≤ pc ∨ lo + m + 1 = 0) := Lib.hid (.inl (by rw [HXY.out.2]; exact H2.out))
          have I4 : Hid (pc < bndN p (lo + m + 1 + (n - (m + 1))) ∨ lo + m + 1 + (n - (m + 1)) = p.funcs.length) := Lib.hid (by rw [e1]; exact I2.out)
          by_cases hq : p.funcs.length - lo = m + 1
          · rw [if_pos hq]
            refine ⟨⟨lo + m + 1, n - (m + 1), lo * 8, by omega, by rw [e2], fun h => absurd h (by omega), I3, I4⟩, ?_⟩
            show n - (m + 1) < n
            omega
          · rw [if_neg hq]
            refine ⟨⟨lo + m + 1, n - (m + 1), lo * 8 + (m + 1) * 8, by omega, by rw [e2], fun _ => by omega, I3, I4⟩, ?_⟩
            show n - (m + 1) < n
            omega

/-- what LookupFunc tells -/
def LookIs (p : Pg) (nm : ByteArray) (fb : Nat) (e : Ending) : Prop :=
  ((∀ j, ∀ h : j < p.funcs.length, p.funcs[j].name ≠ nm) ∧ e = .returned (.pointer none)) ∨ ∃ k, ∃ hk : k < p.funcs.length, p.funcs[k].name = nm ∧ (∀ j, ∀ h : j < p.funcs.length, j < k → p.funcs[j].name ≠ nm) ∧ e = .returned (.pointer (some ⟨fb, k * 8, none⟩))
set_option maxRecDepth 100000 in
set_option maxHeartbeats 1000000 in
theorem lookupFunc_any (tb lt fb sb bf : Nat) (nm : ByteArray) (p : Pg) (w : World) (HW : WellP p) (ht : TbRow w tb lt fb bf p) (hr : FnRows w fb sb p) (_ : nm.size ≤ maxLen) :
    Calls Try.prog 33 #[.pointer (some ⟨tb, 0, none⟩), .string nm] w fun e w' => w' = w ∧ LookIs p nm fb e := by
  have t1 := ht.c1
  have tl := ht.l
  have hfl := HW.head.fl
  have HR := Lib.hid hr
  have HWH := Lib.hid HW
  have hlf := hr.lf
  have hls := hr.ls
  clear ht HW hr
  go_enter Try.func33, Try.ntmps33
  go_wp2_with fail
  go_loop [12] (fun i => ∃ k : Nat, k ≤ p.funcs.length ∧ i = .int .i64 k ∧ Hid (∀ j, ∀ h : j < p.funcs.length, j < k → p.funcs[j].name ≠ nm)) (fun i => p.funcs.length - (intOf i).toNat)
  case atStart => exact ⟨0, Nat.zero_le _, rfl, Lib.hid (fun j _ h => absurd h (Nat.not_lt_zero _))⟩
  case round =>
    obtain ⟨k, hk, rfl, I⟩ := hrel
    by_cases hlt : k < p.funcs.length
    · have hs := HR.out.s k hlt
      have hn := HR.out.n k hlt
      have hgd : p.funcs.getD k default = p.funcs[k] := by rw [List.getD_eq_getElem?_getD, List.getElem?_eq_getElem hlt]; rfl
      rw [hgd] at hn
      have hsz : p.funcs[k].name.size ≤ 1000 := (HWH.out.funcs k hlt).name.le
      by_cases he : p.funcs[k].name = nm
      · have hq : (p.funcs[k].name.toList == nm.toList) = true := by rw [he]; simp
        have HL : Hid (LookIs p nm fb (.returned (.pointer (some ⟨fb, k * 8, none⟩)))) := Lib.hid (.inr ⟨k, hlt, he, I.out, rfl⟩)
        clear he hgd
        generalize p.funcs[k].name = fnm at *
        go_wp2_with fail
        go_ret
        exact ⟨rfl, HL.out⟩
      · have hq : (p.funcs[k].name.toList == nm.toList) = false := toList_ne he
        have HE : Hid (∀ j, ∀ h : j < p.funcs.length, j < k + 1 → p.funcs[j].name ≠ nm) := Lib.hid (fun j hj hjk => by
          rcases Nat.lt_or_ge j k with h | h
          · exact I.out j hj h
          · obtain rfl : j = k := by omega
            exact he)
        clear he hgd
        generalize p.funcs[k].name = fnm at *
        go_wp2_with fail
        exact ⟨⟨k + 1, hlt, by go_num, HE⟩, by simp [intOf]; omega⟩
    · obtain rfl : k = p.funcs.length := by omega
      go_wp2_with fail
      go_ret
      exact ⟨rfl, .inl ⟨fun j hj => I.out j hj hj, rfl⟩⟩

set_option maxRecDepth 100000 in
set_option maxHeartbeats 1000000 in
theorem name_nil (w : World) : Calls Try.prog 35 #[.pointer none] w fun e w' => e = .returned (.string ⟨#[]⟩) ∧ w' = w := by
  go_enter Try.func35, Try.ntmps35
  go_wp2_with fail
  go_ret
  exact ⟨rfl, rfl⟩
set_option maxRecDepth 100000 in
set_option maxHeartbeats 1000000 in
theorem name_any (fb sb k : Nat) (p : Pg) (w : World) (hr : FnRows w fb sb p) (hk : k < p.funcs.length) :
    Calls Try.prog 35 #[.pointer (some ⟨fb, k * 8, none⟩)] w fun e w' => e = .returned (.string p.funcs[k].name) ∧ w' = w := by
  have hs := hr.s k hk
  have hn := hr.n k hk
  have hlf := hr.lf
  have hls := hr.ls
  rw [List.getD_eq_getElem?_getD, List.getElem?_eq_getElem hk] at hn
  simp only [Option.getD_some] at hn
  clear hr
  generalize p.funcs[k].name = nm at *
  go_enter Try.func35, Try.ntmps35
  go_wp2_with fail
  go_ret
  exact ⟨rfl, rfl⟩
end Go.Proofs.Ytoedlabfiialfaa
