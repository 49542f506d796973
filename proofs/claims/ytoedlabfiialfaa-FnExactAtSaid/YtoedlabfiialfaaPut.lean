/-
  The walk through the closure of Bytes that lays bytes behind.
-/
import Derived.Test.YtoedlabfiialfaaApp
namespace Go.Proofs.Ytoedlabfiialfaa
open Go.RowKit

/-- nothing has turned but blocks of S and new ones -/
structure Fr (S : Nat → Prop) (w w' : World) : Prop where
  os : w'.os = w.os
  tape : w'.tape = w.tape
  output : w'.output = w.output
  size : w.heap.size ≤ w'.heap.size
  block : ∀ k, k < w.heap.size → ¬ S k → w'.heap[k]? = w.heap[k]?
theorem Fr.refl (S : Nat → Prop) (w : World) : Fr S w w := ⟨rfl, rfl, rfl, Nat.le_refl _, fun _ _ _ => rfl⟩
theorem Fr.of_below {S : Nat → Prop} {w w' : World} (h : Below w.heap.size w w') : Fr S w w' := ⟨h.os, h.tape, h.output, h.size, fun k hk _ => h.block k hk⟩
theorem Fr.of_grown {S : Nat → Prop} {w w' : World} {row : Option Nat} (h : w.grownBy w' row) (hr : ∀ k, row = some k → S k) : Fr S w w' :=
  ⟨h.os, h.tape, h.output, h.size, fun k hk hs => h.block k hk (fun e => hs (hr k e.symm))⟩
theorem Fr.trans {S : Nat → Prop} {a b c : World} (h : Fr S a b) (k : Fr S b c) : Fr S a c :=
  ⟨k.os.trans h.os, k.tape.trans h.tape, k.output.trans h.output, Nat.le_trans h.size k.size, fun i hi hs => (k.block i (Nat.lt_of_lt_of_le hi h.size) hs).trans (h.block i hi hs)⟩
theorem Fr.weak {S S' : Nat → Prop} {w w' : World} (h : Fr S w w') (hs : ∀ k, k < w.heap.size → S k → S' k) : Fr S' w w' :=
  ⟨h.os, h.tape, h.output, h.size, fun k hk hn => h.block k hk (fun h' => hn (hs k hk h'))⟩
theorem Fr.below {S : Nat → Prop} {w w' : World} {B : Nat} (h : Fr S w w') (hB : B ≤ w.heap.size) (hs : ∀ k, k < B → ¬ S k) : Below B w w' :=
  ⟨h.os, h.tape, h.output, h.size, fun k hk => h.block k (Nat.lt_of_lt_of_le hk hB) (hs k hk)⟩
theorem Fr.set {S : Nat → Prop} {a w : World} (h : Fr S a w) (p : Addr) (hp : p.block < a.heap.size → S p.block) (u : Value) : Fr S a (w.setCell p u) :=
  ⟨h.os, h.tape, h.output, Nat.le_trans h.size (by simp [World.setCell]), fun k hk hs => by
    rw [Below.heap_setCell _ _ _ _ (fun e => by subst e; exact hs (hp hk))]; exact h.block k hk hs⟩
theorem Fr.alloc {S : Nat → Prop} {a w : World} (h : Fr S a w) (o : Obj) : Fr S a (w.alloc o) :=
  h.trans (Fr.of_below ((Below.refl _ _).alloc (Nat.le_refl _) o))
theorem Fr.cell {S : Nat → Prop} {w w' : World} (h : Fr S w w') {b o : Nat} {v : Value} (hc : w.cell? ⟨b, o, none⟩ = some v) (hs : ¬ S b) : w'.cell? ⟨b, o, none⟩ = some v :=
  (World.cell?_of_block (h.block b (World.block_lt_of_cell? w ⟨b, o, none⟩ hc) hs)).trans hc
theorem Fr.own {S : Nat → Prop} {w w' : World} (h : Fr S w w') {base : Nat} {v : Value} {xs : List UInt8} (ho : OwnV w base v xs) (hs : ∀ k, v.ownBlock = some k → ¬ S k) : OwnV w' base v xs := by
  refine ⟨ho.1, ?_⟩
  rcases ho.2 with h2 | ⟨g, c, cur, hv, hg, hh, r⟩
  · exact .inl h2
  · exact .inr ⟨g, c, cur, hv, hg, by rw [h.block g (Array.getElem?_eq_some_iff.1 hh).1 (hs g (by rw [hv]; rfl))]; exact hh, r⟩

/-- the variable behind: in its own block, a slice of the call's own -/
structure Beh (w : World) (Bb base : Nat) (v : Value) (xs : List UInt8) : Prop where
  one : w.heap[Bb]? = some (.cells #[v] 31 (0, 0))
  own : OwnV w base v xs
theorem Beh.keep {S : Nat → Prop} {w w' : World} {Bb base : Nat} {v : Value} {xs : List UInt8} (h : Beh w Bb base v xs) (hf : Fr S w w') (h1 : ¬ S Bb) (h2 : ∀ k, v.ownBlock = some k → ¬ S k) : Beh w' Bb base v xs :=
  ⟨(hf.block Bb (Array.getElem?_eq_some_iff.1 h.one).1 h1).trans h.one, hf.own h.own h2⟩
theorem one_ne {w : World} {Bb : Nat} {v : Value} (h : w.heap[Bb]? = some (.cells #[v] 31 (0, 0))) {v' : Value} {ys : List UInt8} {base' : Nat} (h' : OwnV w base' v' ys) : v'.ownBlock ≠ some Bb := by
  intro e
  rcases h'.2 with ⟨hv, _⟩ | ⟨g, c, cur, hv, hg, hh, r⟩
  · rw [hv] at e; cases e
  · rw [hv] at e
    obtain rfl : g = Bb := by injection e
    rw [hh] at h
    simp at h

def PutPost (Bb base : Nat) (v : Value) (xs l : List UInt8) (w w' : World) : Prop :=
  ∃ v', Beh w' Bb base v' (xs ++ l) ∧ (v'.ownBlock = v.ownBlock ∨ v'.ownBlock = some w.heap.size) ∧ Fr (fun k => k = Bb ∨ some k = v.ownBlock) w w'

theorem own_shape {w : World} {base : Nat} {v : Value} {xs : List UInt8} (h : OwnV w base v xs) : ∃ A c, v = .slice A xs.length c := by
  rcases h.2 with ⟨hv, hx⟩ | ⟨g, c, cur, hv, _⟩
  · exact ⟨none, 0, by rw [hv, hx]⟩
  · exact ⟨_, _, hv⟩

set_option maxRecDepth 100000 in
set_option maxHeartbeats 1000000 in
theorem put_any (Bh Bn Br Bb h n r q N : Nat) (v : Value) (xs l : List UInt8) (ad : Addr) (m cap base : Nat) (w : World)
    (ch : w.cell? ⟨Bh, 0, none⟩ = some (.int .i64 h)) (cn : w.cell? ⟨Bn, 0, none⟩ = some (.int .i64 n)) (cr : w.cell? ⟨Br, 0, none⟩ = some (.int .i64 r)) (hbeh : Beh w Bb base v xs)
    (hcells : ∀ j u, (l.map bv)[j]? = some u → w.cell? (ad.add j) = some u) (hm : m = l.length) (hsz : xs.length + l.length ≤ 1000000) (hbase : base ≤ w.heap.size) (hq : n * r = q) (hbd : h + q ≤ 1000000) (hN : h + q + xs.length = N) :
    Calls Try.prog 28 #[.slice (some ad) m cap, .pointer (some ⟨Bh, 0, none⟩), .pointer (some ⟨Bn, 0, none⟩), .pointer (some ⟨Br, 0, none⟩), .pointer (some ⟨Bb, 0, none⟩)] w
      fun e w' => e = .returned (.int .u32 N) ∧ PutPost Bb base v xs l w w' := by
  have hmul : (n : Int) * (r : Int) = (q : Int) := by rw [← hq]; simp
  have HC := Lib.hid hcells
  have HM := Lib.hid hm
  have HO := Lib.hid hbeh.own
  have HBE := Lib.hid hbeh
  have cb := cell_of_one hbeh.one
  have hvs := own_shape hbeh.own
  have HNE := Lib.hid (one_ne hbeh.one hbeh.own)
  have cf := free_of_one hbeh.one
  have hBb : Bb < w.heap.size := (Array.getElem?_eq_some_iff.1 hbeh.one).1
  obtain ⟨A, c0, hv⟩ := hvs
  have HN := Lib.hid hN
  clear hq hcells hm hbeh hN
  subst hv
  go_enter Try.func28, Try.ntmps28
  go_wp2_with (first | (at_builtin; with_reducible refine app_bytes _ rfl (.tmp 16) (.tmp 17) rfl base (.slice A xs.length c0) xs rfl HO.out ad m cap l rfl HM.out HC.out hsz hbase ?_; intro v1 w1 hown1 hgrow1 hb1 hloc1; have HL1 := Lib.hid hloc1; have hb1e := (hgrow1.block Bb hBb (Ne.symm HNE.out)).trans HBE.out.one; have HB1E := Lib.hid hb1e; have cb1 := cell_of_one hb1e; have cf1 := free_of_one hb1e; obtain ⟨A1, c1, hv1⟩ := own_shape hown1; rw [List.length_append] at hv1; clear hloc1 hb1e; subst hv1))
  go_ret
  refine ⟨by rw [← HN.out]; first | rfl | (congr 2; push_cast; omega), _, ⟨one_setCell HB1E.out, ?_⟩, HL1.out, ?_⟩
  · exact ownsRow_setCell_other hown1 (a := ⟨Bb, 0, none⟩) (one_ne HB1E.out hown1) _
  · exact ((Fr.of_grown hgrow1 (fun k hk => .inr hk.symm)) : Fr (fun k => k = Bb ∨ some k = (Value.slice A xs.length c0).ownBlock) w _).set ⟨Bb, 0, none⟩ (fun _ => .inl rfl) _
end Go.Proofs.Ytoedlabfiialfaa
