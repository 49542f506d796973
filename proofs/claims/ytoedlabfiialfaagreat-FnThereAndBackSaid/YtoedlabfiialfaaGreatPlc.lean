/-
  The walks through Table.LineToPC and the thin package's Place.
-/
import Derived.Test.YtoedlabfiialfaaGreatGll
import Derived.Test.YtoedlabfiialfaaGreatIli
namespace Go.Proofs.YtoedlabfiialfaaGreat
open Go.RowKit

/-- the number of a file -/
theorem file_no {p : Pg} {s : ByteArray} (h : InL p.files s) : ∃ i, ∃ hi : i < p.files.length, p.files[i] = s ∧ findL s (fileL p.files 1) 0 = some (i, .int .u32 ((1 + i : Nat) : Int)) := by
  cases hf : findL s (fileL p.files 1) 0 with
  | none =>
    exfalso
    obtain ⟨k, hk, e⟩ := h
    have := findL_none.1 hf ((fileL p.files 1)[k]'(by rw [fileL_length]; exact hk)) (List.getElem_mem _)
    rw [fileL_get] at this
    exact this e
  | some r =>
    obtain ⟨j, v⟩ := r
    obtain ⟨k, hk, rfl, hl, _⟩ := findL_some hf
    have hk' : k < p.files.length := by rwa [fileL_length] at hk
    rw [fileL_get] at hl
    simp only [Prod.mk.injEq] at hl
    obtain ⟨h1, rfl⟩ := hl
    exact ⟨k, hk', h1, by simp⟩
/-- what is told of a line of a file -/
def PlTo (p : Pg) (s : ByteArray) (line : Int) (fb : Nat) (e : Ending) : Prop :=
  (¬ InL p.files s ∧ e = .returned (.tuple #[.int .u64 0, .pointer none, .iface 98 (.string s)])) ∨
  ∃ i, ∃ hi : i < p.files.length, p.files[i] = s ∧
    ((placeG p ((1 + i : Nat) : Int) line p.funcs.length 0 = 0 ∧ ∃ a, e = .returned (.tuple #[.int .u64 0, .pointer none, .iface 99 (.pointer (some a))])) ∨
     (placeG p ((1 + i : Nat) : Int) line p.funcs.length 0 ≠ 0 ∧ ∃ v, e = .returned (.tuple #[.int .u64 ((placeG p ((1 + i : Nat) : Int) line p.funcs.length 0 : Nat) : Int), v, .nilIface]) ∧
       (((placeG p ((1 + i : Nat) : Int) line p.funcs.length 0 < bndN p 0 ∨ bndN p p.funcs.length ≤ placeG p ((1 + i : Nat) : Int) line p.funcs.length 0) ∧ v = .pointer none) ∨
         ∃ k, k < p.funcs.length ∧ bndN p k ≤ placeG p ((1 + i : Nat) : Int) line p.funcs.length 0 ∧ placeG p ((1 + i : Nat) : Int) line p.funcs.length 0 < bndN p (k + 1) ∧ v = .pointer (some ⟨fb, k * 8, none⟩))))

set_option maxRecDepth 100000 in
set_option maxHeartbeats 2000000 in
theorem tbLineToPC_any (base tb lt db c b1 b2 b3 bf fb sb : Nat) (line : Int) (s : ByteArray) (p : Pg) (w : World) (h : TbOk w base tb lt db c b1 b2 b3 bf fb sb p)
    (hone : ∀ k (hk : k < p.funcs.length), p.funcs[k].files.length = 1) (hln : -2147483648 ≤ line ∧ line ≤ 2147483647) :
    Calls Tryz.prog 39 #[.pointer (some ⟨tb, 0, none⟩), .string s, .int .i64 line] w fun e w' => PlTo p s line fb e ∧ TbOk w' base tb lt db c b1 b2 b3 bf fb sb p ∧ Fr (fun j => j = lt) w w' := by
  have HT := Lib.hid h
  obtain ⟨lm, ov, hmf, hfo⟩ := h.mf
  have hlook := hmf.look KS Tryz.underlying79 (z := .pointer none) (by kernel_rfl) s
  have t2 := h.cells.c2
  have t4 := h.cells.c4
  have tl := h.cells.l
  clear h hmf
  by_cases hs : InL p.files s
  · have hlk : (Instr.lookup 79 (.map (some bf)) (.string s) true).run Tryz.prog w = .ok (.tuple #[ov, .bool true]) w := by
      cases hf : findL s lm 0 with
      | none =>
        obtain ⟨x, hx, e⟩ := hfo.2 s hs
        exact absurd e (findL_none.1 hf x hx)
      | some r =>
        obtain ⟨j, v⟩ := r
        obtain ⟨k, hk, _, hl, _⟩ := findL_some hf
        have := (hfo.1 lm[k] (List.getElem_mem hk)).1
        rw [hl] at this
        subst this
        rw [hf] at hlook
        exact hlook
    obtain ⟨i, hi, his, hfd⟩ := file_no hs
    have HFD := Lib.hid hfd
    have HI : Hid (∃ hi : i < p.files.length, p.files[i] = s) := Lib.hid ⟨hi, his⟩
    have hsl := HT.out.t.well.head.sl
    have hnq : ∀ (o : Addr) (W : World), (binOp .neq 81 (.pointer (some o)) (.pointer none)).run Tryz.prog W = .ok (.bool true) W := fun o W => by rfl
    clear hlook hfo hs hfd his
    go_enter Tryz.func39, Tryz.ntmps39
    go_wp2_with fail
    have hge := HT.out.ge
    have hlo := HT.out.lo
    refine Calls.mono (go12LineToPC_any lt db c b1 b2 b3 i (1 + i) line s p w HT.out.t HT.out.m3 HFD.out (by omega) (by omega) hone hln) ?_
    rintro e w2 ⟨rfl, hL2, hf2⟩
    have HT2 := Lib.hid (HT.out.fr hL2 hf2 (fun j e => by omega))
    have HF2 := Lib.hid hf2
    have t22 := HT2.out.cells.c2
    have t42 := HT2.out.cells.c4
    have tl2 := HT2.out.cells.l
    clear hL2 hf2 t2 t4 tl hge hlo
    obtain ⟨x, hx⟩ : ∃ x, placeG p ((1 + i : Nat) : Int) line p.funcs.length 0 = x := ⟨_, rfl⟩
    rw [hx]
    have HX := Lib.hid hx
    clear hx
    by_cases hx0 : x = 0
    · subst hx0
      go_wp2_with fail
      go_ret3
      obtain ⟨hi, his⟩ := HI.out
      exact ⟨.inr ⟨i, hi, his, .inl ⟨HX.out, _, rfl⟩⟩, HT2.out.keep ((Below.refl _ _).alloc (Nat.le_refl _) _), HF2.out.trans (Fr.of_below ((Below.refl _ _).alloc (Nat.le_refl _) _))⟩
    · have hxq : ((x : Int) == 0) = false := by rw [beq_eq_false_iff_ne]; omega
      go_wp2_with fail
      refine Calls.mono (pcToFunc_any tb lt fb sb bf x p w2 HT2.out.t.well HT2.out.cells HT2.out.rows) ?_
      rintro e w3 ⟨hw3, hcase⟩
      have hw3' := hw3.symm
      subst hw3'
      obtain ⟨v, rfl, hv⟩ : ∃ v, e = .returned v ∧ ((x < bndN p 0 ∨ bndN p p.funcs.length ≤ x) ∧ v = .pointer none ∨ ∃ k, k < p.funcs.length ∧ bndN p k ≤ x ∧ x < bndN p (k + 1) ∧ v = .pointer (some ⟨fb, k * 8, none⟩)) := by
        rcases hcase with ⟨h1, rfl⟩ | ⟨k, k1, k2, k3, rfl⟩
        · exact ⟨_, rfl, .inl ⟨h1, rfl⟩⟩
        · exact ⟨_, rfl, .inr ⟨k, k1, k2, k3, rfl⟩⟩
      have HV := Lib.hid hv
      clear hcase hv
      go_wp2_with fail
      go_ret3
      obtain ⟨hi, his⟩ := HI.out
      exact ⟨.inr ⟨i, hi, his, .inr (by rw [HX.out]; exact ⟨hx0, v, rfl, HV.out⟩)⟩, HT2.out, HF2.out⟩
  · have hlk : (Instr.lookup 79 (.map (some bf)) (.string s) true).run Tryz.prog w = .ok (.tuple #[.pointer none, .bool false]) w := by
      rw [findL_none.2 (fun x hx e => hs (by have := (hfo.1 x hx).2; rwa [e] at this))] at hlook
      exact hlook
    clear hlook hfo
    go_enter Tryz.func39, Tryz.ntmps39
    go_wp2_with fail
    go_ret3
    exact ⟨.inl ⟨hs, rfl⟩, HT.out, Fr.refl _ _⟩

/-- where the thin package tells a line of a file to be -/
def PlIs (p : Pg) (s : ByteArray) (line : Int) (e : Ending) : Prop :=
  (¬ InL p.files s ∧ e = .returned (.tuple #[.int .u64 0, .string ⟨#[]⟩, .int .i64 1])) ∨
  ∃ i, ∃ hi : i < p.files.length, p.files[i] = s ∧
    ((placeG p ((1 + i : Nat) : Int) line p.funcs.length 0 = 0 ∧ e = .returned (.tuple #[.int .u64 0, .string ⟨#[]⟩, .int .i64 2])) ∨
     (placeG p ((1 + i : Nat) : Int) line p.funcs.length 0 ≠ 0 ∧ ∃ nm, e = .returned (.tuple #[.int .u64 ((placeG p ((1 + i : Nat) : Int) line p.funcs.length 0 : Nat) : Int), .string nm, .int .i64 0]) ∧
       (((placeG p ((1 + i : Nat) : Int) line p.funcs.length 0 < bndN p 0 ∨ bndN p p.funcs.length ≤ placeG p ((1 + i : Nat) : Int) line p.funcs.length 0) ∧ nm = ⟨#[]⟩) ∨
         ∃ k, ∃ hk : k < p.funcs.length, bndN p k ≤ placeG p ((1 + i : Nat) : Int) line p.funcs.length 0 ∧ placeG p ((1 + i : Nat) : Int) line p.funcs.length 0 < bndN p (k + 1) ∧ nm = p.funcs[k].name)))
set_option maxRecDepth 100000 in
set_option maxHeartbeats 2000000 in
theorem implPlace_any (g n cap : Nat) (s : ByteArray) (line : Int) (p : Pg) (w : World) (HW : WellP p) (hm : Mem w g 0 (bytesB p)) (hn : n = (bytesB p).length) (hc : n ≤ cap)
    (hone : ∀ k (hk : k < p.funcs.length), p.funcs[k].files.length = 1) (hln : -2147483648 ≤ line ∧ line ≤ 2147483647) :
    Calls Tryz.prog 17 #[.slice (some ⟨g, 0, none⟩) n cap, .string s, .int .i64 line] w fun e w' => PlIs p s line e ∧ Below w.heap.size w w' := by
  have HC := Lib.hid (table_any g n cap p w HW hm hn hc)
  clear hm hn hc HW
  go_enter Tryz.func17, Tryz.ntmps17
  go_wp2_with fail
  refine Calls.mono HC.out ?_
  rintro e w1 ⟨tb, rfl, hT, hb1⟩
  obtain ⟨base, lt, db, c, b1, b2, b3, bf, fb, sb, hT, hlt0, hb10, hb20, hbase⟩ := hT
  have HB1 := Lib.hid hb1
  have HT := Lib.hid hT
  clear hb1 hT HC
  go_wp2_with fail
  refine Calls.mono (tbLineToPC_any base tb lt db c b1 b2 b3 bf fb sb line s p w1 HT.out hone hln) ?_
  rintro e w2 ⟨hpl, hT2, hf2⟩
  have HB2 : Hid (Below w.heap.size w w2) := Lib.hid (HB1.out.trans (hf2.below HB1.out.size (fun k hk e => by omega)))
  have HT2 := Lib.hid hT2
  have HR := Lib.hid hT2.rows
  clear hT2 hf2
  rcases hpl with ⟨hs, rfl⟩ | ⟨i, hi, his, ⟨hx, a, rfl⟩ | ⟨hx, v, rfl, hv⟩⟩
  · have ha1 : ∀ W : World, (Instr.typeAssert (.iface 98 (.string s)) 95 98 true).run Tryz.prog W = .ok (.tuple #[.string s, .bool true]) W := fun W => by kernel_rfl
    go_wp2_with fail
    refine Calls.mono (name_nil _) ?_
    rintro e w3 ⟨rfl, hw3⟩
    have hw3' := hw3.symm
    subst hw3'
    go_wp2_with fail
    go_ret3
    exact ⟨.inl ⟨hs, rfl⟩, HB2.out⟩
  · have ha2 : ∀ W : World, (Instr.typeAssert (.iface 99 (.pointer (some a))) 95 98 true).run Tryz.prog W = .ok (.tuple #[.string ⟨#[]⟩, .bool false]) W := fun W => by kernel_rfl
    have ha3 : ∀ W : World, (Instr.typeAssert (.iface 99 (.pointer (some a))) 95 99 true).run Tryz.prog W = .ok (.tuple #[.pointer (some a), .bool true]) W := fun W => by kernel_rfl
    have HX := Lib.hid hx
    clear hx
    go_wp2_with fail
    refine Calls.mono (name_nil _) ?_
    rintro e w3 ⟨rfl, hw3⟩
    have hw3' := hw3.symm
    subst hw3'
    go_wp2_with fail
    go_ret3
    exact ⟨.inr ⟨i, hi, his, .inl ⟨HX.out, rfl⟩⟩, HB2.out⟩
  · obtain ⟨x, hxx⟩ : ∃ x, placeG p ((1 + i : Nat) : Int) line p.funcs.length 0 = x := ⟨_, rfl⟩
    rw [hxx] at hx hv ⊢
    have HX := Lib.hid hxx
    have HXN := Lib.hid hx
    clear hxx hx
    rcases hv with ⟨ho, rfl⟩ | ⟨k, hk, hk1, hk2, rfl⟩
    · have HO := Lib.hid ho
      clear ho
      go_wp2_with fail
      refine Calls.mono (name_nil _) ?_
      rintro e w3 ⟨rfl, hw3⟩
      have hw3' := hw3.symm
      subst hw3'
      go_wp2_with fail
      go_ret3
      exact ⟨.inr ⟨i, hi, his, .inr (by rw [HX.out]; exact ⟨HXN.out, _, rfl, .inl ⟨HO.out, rfl⟩⟩)⟩, HB2.out⟩
    · have HK := Lib.hid (And.intro hk1 hk2)
      have HN := Lib.hid (name_any fb sb k p w2 HR.out hk)
      clear hk1 hk2
      go_wp2_with fail
      refine Calls.mono HN.out ?_
      rintro e w3 ⟨rfl, hw3⟩
      have hw3' := hw3.symm
      subst hw3'
      go_wp2_with fail
      go_ret3
      exact ⟨.inr ⟨i, hi, his, .inr (by rw [HX.out]; exact ⟨HXN.out, _, rfl, .inr ⟨k, hk, HK.out.1, HK.out.2, rfl⟩⟩)⟩, HB2.out⟩
end Go.Proofs.YtoedlabfiialfaaGreat
