/-
  An append to a slice of bytes of the call's own; the walk through the writer of runs: pairs.
-/
import Derived.Test.YtoedlabfiialfaaGreatVar
namespace Go.Proofs.YtoedlabfiialfaaGreat
open Go.RowKit

/-- v is a slice of bytes of the call's own that holds xs -/
abbrev OwnV (w : World) (base : Nat) (v : Value) (xs : List UInt8) : Prop := w.ownsRow base 5 1 v xs.length (xs.map bv)
theorem ownsRow_below {w w' : World} {base : Nat} {e : TypeId} {size : Nat} {v : Value} {n : Nat} {xs : List Value} (h : w.ownsRow base e size v n xs) (hb : Below w.heap.size w w') : w'.ownsRow base e size v n xs := by
  refine ⟨h.1, ?_⟩
  rcases h.2 with h2 | ⟨g, c, cur, hv, hg, hh, r⟩
  · exact .inl h2
  · exact .inr ⟨g, c, cur, hv, hg, by rw [hb.block g (Array.getElem?_eq_some_iff.1 hh).1]; exact hh, r⟩
theorem OwnV.mono {w : World} {base base' : Nat} {v : Value} {xs : List UInt8} (h : OwnV w base v xs) (hb : base' ≤ base) : OwnV w base' v xs := by
  refine ⟨h.1, ?_⟩
  rcases h.2 with h2 | ⟨g, c, cur, hv, hg, hh, r⟩
  · exact .inl h2
  · exact .inr ⟨g, c, cur, hv, by omega, hh, r⟩

/-- append of bytes to a slice of the call's own -/
theorem app_bytes (w : World) {ops : Array Oper} {rest : List Oper} {o : Oper} {a : Act} {Q : Exit → Act → World → Prop} (hgd : o.guard = none) (s x : Operand)
    (ho : o.op = .call { callee := .builtin .append, args := #[s, x], argTypes := #[31, 31] })
    (base : Nat) (v : Value) (xs : List UInt8) (hs : a.eval s = v) (hown : OwnV w base v xs) (ad : Addr) (m c : Nat) (l : List UInt8) (hx : a.eval x = .slice (some ad) m c) (hm : m = l.length)
    (hcells : ∀ j u, (l.map bv)[j]? = some u → w.cell? (ad.add j) = some u) (hsz : xs.length + l.length ≤ 1000000) (hbase : base ≤ w.heap.size)
    (h : ∀ v' w', OwnV w' base v' (xs ++ l) → w.grownBy w' v.ownBlock → Below base w w' → (v'.ownBlock = v.ownBlock ∨ v'.ownBlock = some w.heap.size) → wpList Tryz.prog ops Q rest (a.put o.dst v') w') : wpList Tryz.prog ops Q (o :: rest) a w := by
  obtain ⟨i0, hi, hz0, hz1, hz2⟩ := info_parts infoByte
  refine wpList_append_own_at w hgd s x 31 ho base 5 i0 (.int .u8 0) 1 1 Tryz.underlying31 hi hz0 hz1 hz2 rfl (by decide) v xs.length (xs.map bv) hs hown ad m c (l.map bv) hx (by simp [hm]) hcells (bv_one l) (by unfold maxLen; omega) (by omega) hbase ?_
  intro v' w' h1 h2 _ h4
  exact h v' w' (ownsRow_len h1 (by simp [hm]) (by simp)) h2 ((Below.refl _ _).grown h2 hbase (fun k hk => (hown.lt k hk).1)) h4
theorem byte_cells (w : World) (x : UInt8) (t : TypeId) : ∀ j u, ([x].map bv)[j]? = some u → (w.alloc (.cells #[bv x] t)).cell? ((⟨w.heap.size, 0, none⟩ : Addr).add j) = some u := cell_one_new w (bv x) t

theorem varint_int (x : Int) (w : World) (h0 : 0 ≤ x) (hn : x < 4294967296) : Calls Tryz.prog 50 #[.int .u32 x] w (Wrote (varB x.toNat) w) := by
  have := varint_any x.toNat w (by omega)
  rwa [Int.toNat_of_nonneg h0] at this
theorem drop_cons {α : Type} (l : List α) (k : Nat) (h : k < l.length) : l.drop k = l[k] :: l.drop (k + 1) := by simp

set_option maxRecDepth 100000 in
set_option maxHeartbeats 1000000 in
theorem pairs_any (A : Option Addr) (c : Nat) (l : List Run) (most : Int) (B : Nat) (w : World) (H : RunOk w B A l) (hB : B ≤ w.heap.size) (hg : RunsGood l most) (hm : most ≤ 65536) :
    Calls Tryz.prog 35 #[.slice A l.length c] w (Wrote (pairsB l) w) := by
  have HLE := Lib.hid (pairsB_le hg hm)
  have hl := H.len
  unfold maxLen at hl
  go_enter Tryz.func35, Tryz.ntmps35
  go_wp2_with fail
  go_loopw [3, 4, 10] (fun v la i wr => ∃ (k : Nat) (xs : List UInt8) (last : Int), k ≤ l.length ∧ i = .int .i64 k ∧ la = .int .i32 last ∧ -1 ≤ last ∧ last ≤ 65536 ∧ xs ++ pairsFrom last (l.drop k) = pairsB l ∧ OwnV wr w.heap.size v xs ∧ Below w.heap.size w wr) (fun _ _ i _ => l.length - (intOf i).toNat)
  case atStart => exact ⟨0, [], -1, Nat.zero_le _, rfl, rfl, by omega, by omega, rfl, World.ownsRow_nil _ _ _ _, Below.refl _ _⟩
  case round =>
    obtain ⟨k, xs, last, hk, rfl, rfl, hla0, hla1, hxs, hown, hb⟩ := hrel
    have HX := Lib.hid hxs
    clear hxs
    have hbs := hb.size
    by_cases hlt : k < l.length
    · obtain ⟨b, off, rfl, hbB, h1, h2⟩ := (H.keep (hb.mono hB)).sl k hlt
      have hr := hg.each k hlt
      have hq2 := hr.q2
      have hv1 := hr.v1
      have hv2 : l[k].v ≤ 65536 := Int.le_trans hr.v2 hm
      have HXN : Hid ((xs ++ varB (zz (l[k].v - last)) ++ varB l[k].q) ++ pairsFrom l[k].v (l.drop (k + 1)) = pairsB l) := by
        refine Lib.hid ?_
        rw [← HX.out, drop_cons l k hlt, pairsFrom]
        simp
      have hlen : xs.length + (varB (zz (l[k].v - last))).length + (varB l[k].q).length ≤ 1001 := by
        have := congrArg List.length HXN.out
        have h5 := HLE.out
        simp only [List.length_append] at this
        omega
      clear hr
      generalize l[k] = r at *
      have HOW := Lib.hid hown
      by_cases hd : r.v - last < 0
      · have hz : zz (r.v - last) = ((-1 - (r.v - last)) * 2 + 1).toNat := by unfold zz; rw [if_pos hd]
        rw [hz] at hlen HXN
        clear hz
        go_wp2_with fail
        refine (varint_int ((-1 - (r.v - last)) * 2 + 1) _ (by omega) (by omega)).mono ?_
        rintro e w2 ⟨g, cp, rfl, hO, hb2⟩
        have q0 : w2.cell? ⟨wr.heap.size, 0, none⟩ = some (.int .u32 r.q) := (hb2.cell (p := ⟨wr.heap.size, 0, none⟩) (by simp)).trans (by simp [cell_of_row _ _ 0 _ _ _ (heap_alloc_new wr _)])
        have q1 : w2.cell? ⟨wr.heap.size, 1, none⟩ = some (.int .i32 r.v) := (hb2.cell (p := ⟨wr.heap.size, 1, none⟩) (by simp)).trans (by simp [cell_of_row _ _ 1 _ _ _ (heap_alloc_new wr _)])
        have hw2 : Below w.heap.size w w2 := (hb.alloc hbs _).trans (hb2.mono (by simp; omega))
        have hown2 : OwnV w2 w.heap.size u3 xs := ownsRow_below (HOW.out.alloc _) hb2
        have hs2 : wr.heap.size < w2.heap.size := by have := hb2.size; simp at this; omega
        have hne : some wr.heap.size ≠ u3.ownBlock := fun e => by have := (HOW.out.lt _ e.symm).2; omega
        have HNE := Lib.hid hne
        clear hne
        go_wp2_with (first | (at_builtin; with_reducible refine app_bytes _ rfl (.tmp 20) (.tmp 26) rfl w.heap.size u3 xs rfl hown2 ⟨g, 0, none⟩ _ cp (varB ((-1 - (r.v - last)) * 2 + 1).toNat) rfl rfl hO.cells (by omega) (by omega) ?_; intro v3 w3 hown3 hgrow3 hb3 hloc3; have HL3 := Lib.hid hloc3; clear hloc3; have q0' := hgrow3.cell q0 HNE.out; have q1' := hgrow3.cell q1 HNE.out))
        have hs3 := hgrow3.size
        have hw3 : Below w.heap.size w w3 := hw2.trans hb3
        clear hb2 hb3 hgrow3 hO q0 q1 hown2
        refine (varint_any r.q _ (by omega)).mono ?_
        rintro e w4 ⟨g4, cp4, rfl, hO4, hb4⟩
        have p1 : w4.cell? ⟨wr.heap.size, 1, none⟩ = some (.int .i32 r.v) := (hb4.cell (p := ⟨wr.heap.size, 1, none⟩) (by simp; omega)).trans q1'
        have hown4 : OwnV w4 w.heap.size v3 (xs ++ varB ((-1 - (r.v - last)) * 2 + 1).toNat) := ownsRow_below hown3 hb4
        have hw4 : Below w.heap.size w w4 := hw3.trans (hb4.mono (by omega))
        have hs4 := hb4.size
        have hne : some wr.heap.size ≠ v3.ownBlock := fun e => by
          rcases HL3.out with h | h
          · exact HNE.out (e.trans h)
          · rw [h] at e
            injection e with e
            omega
        have HNE4 := Lib.hid hne
        clear hne
        go_wp2_with (first | (at_builtin; with_reducible refine app_bytes _ rfl (.tmp 34) (.tmp 37) rfl w.heap.size v3 (xs ++ varB ((-1 - (r.v - last)) * 2 + 1).toNat) rfl hown4 ⟨g4, 0, none⟩ _ cp4 (varB r.q) rfl rfl hO4.cells (by simp only [List.length_append]; omega) (by omega) ?_; intro v5 w5 hown5 hgrow5 hb5 _; have p1' := hgrow5.cell p1 HNE4.out))
        exact ⟨⟨k + 1, _, r.v, by omega, by go_num, rfl, by omega, by omega, HXN.out, hown5, hw4.trans hb5⟩, by simp [intOf]; omega⟩
      · have hz : zz (r.v - last) = ((r.v - last) * 2).toNat := by unfold zz; rw [if_neg hd]
        rw [hz] at hlen HXN
        clear hz
        go_wp2_with fail
        refine (varint_int ((r.v - last) * 2) _ (by omega) (by omega)).mono ?_
        rintro e w2 ⟨g, cp, rfl, hO, hb2⟩
        have q0 : w2.cell? ⟨wr.heap.size, 0, none⟩ = some (.int .u32 r.q) := (hb2.cell (p := ⟨wr.heap.size, 0, none⟩) (by simp)).trans (by simp [cell_of_row _ _ 0 _ _ _ (heap_alloc_new wr _)])
        have q1 : w2.cell? ⟨wr.heap.size, 1, none⟩ = some (.int .i32 r.v) := (hb2.cell (p := ⟨wr.heap.size, 1, none⟩) (by simp)).trans (by simp [cell_of_row _ _ 1 _ _ _ (heap_alloc_new wr _)])
        have hw2 : Below w.heap.size w w2 := (hb.alloc hbs _).trans (hb2.mono (by simp; omega))
        have hown2 : OwnV w2 w.heap.size u3 xs := ownsRow_below (HOW.out.alloc _) hb2
        have hs2 : wr.heap.size < w2.heap.size := by have := hb2.size; simp at this; omega
        have hne : some wr.heap.size ≠ u3.ownBlock := fun e => by have := (HOW.out.lt _ e.symm).2; omega
        have HNE := Lib.hid hne
        clear hne
        go_wp2_with (first | (at_builtin; with_reducible refine app_bytes _ rfl (.tmp 28) (.tmp 32) rfl w.heap.size u3 xs rfl hown2 ⟨g, 0, none⟩ _ cp (varB ((r.v - last) * 2).toNat) rfl rfl hO.cells (by omega) (by omega) ?_; intro v3 w3 hown3 hgrow3 hb3 hloc3; have HL3 := Lib.hid hloc3; clear hloc3; have q0' := hgrow3.cell q0 HNE.out; have q1' := hgrow3.cell q1 HNE.out))
        have hs3 := hgrow3.size
        have hw3 : Below w.heap.size w w3 := hw2.trans hb3
        clear hb2 hb3 hgrow3 hO q0 q1 hown2
        refine (varint_any r.q _ (by omega)).mono ?_
        rintro e w4 ⟨g4, cp4, rfl, hO4, hb4⟩
        have p1 : w4.cell? ⟨wr.heap.size, 1, none⟩ = some (.int .i32 r.v) := (hb4.cell (p := ⟨wr.heap.size, 1, none⟩) (by simp; omega)).trans q1'
        have hown4 : OwnV w4 w.heap.size v3 (xs ++ varB ((r.v - last) * 2).toNat) := ownsRow_below hown3 hb4
        have hw4 : Below w.heap.size w w4 := hw3.trans (hb4.mono (by omega))
        have hs4 := hb4.size
        have hne : some wr.heap.size ≠ v3.ownBlock := fun e => by
          rcases HL3.out with h | h
          · exact HNE.out (e.trans h)
          · rw [h] at e
            injection e with e
            omega
        have HNE4 := Lib.hid hne
        clear hne
        go_wp2_with (first | (at_builtin; with_reducible refine app_bytes _ rfl (.tmp 34) (.tmp 37) rfl w.heap.size v3 (xs ++ varB ((r.v - last) * 2).toNat) rfl hown4 ⟨g4, 0, none⟩ _ cp4 (varB r.q) rfl rfl hO4.cells (by simp only [List.length_append]; omega) (by omega) ?_; intro v5 w5 hown5 hgrow5 hb5 _; have p1' := hgrow5.cell p1 HNE4.out))
        exact ⟨⟨k + 1, _, r.v, by omega, by go_num, rfl, by omega, by omega, HXN.out, hown5, hw4.trans hb5⟩, by simp [intOf]; omega⟩
    · obtain rfl : k = l.length := by omega
      have HX2 : Hid (xs ++ [0] = pairsB l) := by
        refine Lib.hid ?_
        rw [← HX.out, List.drop_length]; rfl
      have hlen : xs.length + 1 ≤ 1001 := by
        have := congrArg List.length HX2.out
        have h5 := HLE.out
        simp at this
        omega
      go_wp2_with (first | (at_builtin; with_reducible refine app_bytes _ rfl (.tmp 42) (.tmp 43) rfl w.heap.size u3 xs rfl (hown.alloc _) ⟨wr.heap.size, 0, none⟩ _ _ [0] rfl rfl (byte_cells _ _ _) (by simp; omega) (by simp; omega) ?_; intro v1 w1 hown1 _ hb1 _))
      go_ret
      exact Wrote.mk' hown1 (by rw [← HX2.out]) (by rw [← HX2.out]) (by rw [← HX2.out]; simp) ((hb.alloc hbs _).trans hb1)
end Go.Proofs.YtoedlabfiialfaaGreat
