/-
  The walk through Bytes: the files and their names.
-/
import Derived.Test.YtoedlabfiialfaaReg
import Derived.Test.YtoedlabfiialfaaBnd
import Derived.ArgAppend
namespace Go.Proofs.Ytoedlabfiialfaa
open Go.RowKit

theorem filesB_step (ys : List UInt8) (f : ByteArray) (fs : List ByteArray) : (ys ++ strZ f) ++ filesB fs = ys ++ filesB (f :: fs) := by simp [filesB]
theorem namesB_step (xs : List UInt8) (big : Bool) (a : Nat) (ys : List UInt8) (f : ByteArray) (fs : List ByteArray) : (xs ++ numB big (a + ys.length) 4) ++ namesB big (a + (ys ++ strZ f).length) fs = xs ++ namesB big (a + ys.length) (f :: fs) := by
  simp [namesB, Nat.add_assoc]
/-- the first eight bytes -/
def hdr8 (p : Pg) (z1 z2 : UInt8) : List UInt8 := numB p.big 4294967291 4 ++ [0, 0, z1, z2]
theorem quantum_byte {p : Pg} (h : WellHead p) : IntKind.u8.wrap p.quantum = ((UInt8.ofNat p.quantum.toNat).toNat : Int) := by
  rcases h.quantum with e | e | e <;> rw [e] <;> rfl
theorem wsz_byte (p : Pg) : IntKind.u8.wrap (wszN p : Int) = ((UInt8.ofNat (wszN p)).toNat : Int) := by
  rcases wszN_or p with ⟨_, e⟩ | ⟨_, e⟩ <;> rw [e] <;> rfl
/-- what the rounds of Bytes read and do not write -/
structure Env (w : World) (g Bh Bn Br Bb : Nat) (FA SA : Option Addr) (fc sc : Nat) (p : Pg) : Prop where
  box : PBox w g FA SA fc sc p
  ch : w.cell? ⟨Bh, 0, none⟩ = some (.int .i64 (headN p))
  cn : w.cell? ⟨Bn, 0, none⟩ = some (.int .i64 p.funcs.length)
  cr : w.cell? ⟨Br, 0, none⟩ = some (.int .i64 (recN p))
  hg : g < Bb
  hh : Bh < Bb
  hn : Bn < Bb
  hr : Br < Bb
theorem Env.keep {w w' : World} {g Bh Bn Br Bb : Nat} {FA SA : Option Addr} {fc sc : Nat} {p : Pg} (h : Env w g Bh Bn Br Bb FA SA fc sc p) (hb : Below Bb w w') : Env w' g Bh Bn Br Bb FA SA fc sc p :=
  ⟨h.box.keep hb h.hg, (hb.cell (p := ⟨Bh, 0, none⟩) h.hh).trans h.ch, (hb.cell (p := ⟨Bn, 0, none⟩) h.hn).trans h.cn, (hb.cell (p := ⟨Br, 0, none⟩) h.hr).trans h.cr, h.hg, h.hh, h.hn, h.hr⟩

theorem Env.cells {w : World} {g Bh Bn Br Bb : Nat} {FA SA : Option Addr} {fc sc : Nat} {p : Pg} (h : Env w g Bh Bn Br Bb FA SA fc sc p) :
    w.cell? ⟨g, 0, none⟩ = some (.int .u64 p.start) ∧ w.cell? ⟨g, 1, none⟩ = some (.slice FA p.funcs.length fc) ∧ w.cell? ⟨g, 2, none⟩ = some (.slice SA p.files.length sc) ∧ w.cell? ⟨g, 3, none⟩ = some (.bool p.big) ∧ w.cell? ⟨g, 4, none⟩ = some (.bool p.wide) ∧
    w.cell? ⟨g, 5, none⟩ = some (.int .i64 p.quantum) ∧ w.cell? ⟨Bh, 0, none⟩ = some (.int .i64 (headN p)) := ⟨h.box.c0, h.box.c1, h.box.c2, h.box.c3, h.box.c4, h.box.c5, h.ch⟩
theorem env_made (w1 W : World) (g : Nat) (FA SA : Option Addr) (fc sc : Nat) (p : Pg) (x1 x2 x3 : Int) (t : TypeId) (hbx : PBox w1 g FA SA fc sc p) (h1 : x1 = p.funcs.length) (h2 : x2 = headN p) (h3 : x3 = recN p)
    (hW : W = (((w1.alloc (.cells #[.int .i64 x1] t)).alloc (.cells #[.int .i64 x2] t)).alloc (.cells #[.int .i64 x3] t)).alloc (.cells #[.slice none 0 0] 31)) :
    Env W g (w1.heap.size + 1) w1.heap.size (w1.heap.size + 1 + 1) (w1.heap.size + 1 + 1 + 1) FA SA fc sc p ∧ Beh W (w1.heap.size + 1 + 1 + 1) (w1.heap.size + 1 + 1 + 1 + 1) (.slice none 0 0) [] ∧ Below w1.heap.size w1 W ∧ W.heap.size = w1.heap.size + 1 + 1 + 1 + 1 := by
  subst h1 h2 h3 hW
  have hb2 : Below w1.heap.size w1 ((((w1.alloc (.cells #[.int .i64 p.funcs.length] t)).alloc (.cells #[.int .i64 (headN p)] t)).alloc (.cells #[.int .i64 (recN p)] t)).alloc (.cells #[.slice none 0 0] 31)) :=
    ((((Below.refl _ _).alloc (Nat.le_refl _) _).alloc (by simp) _).alloc (by simp; omega) _).alloc (by simp; omega) _
  have hlt := hbx.lt
  refine ⟨⟨hbx.keep hb2 hlt, ?_, ?_, ?_, by omega, by omega, by omega, by omega⟩, ⟨?_, World.ownsRow_nil _ _ _ _⟩, hb2, by simp⟩
  · have : ((((w1.alloc (.cells #[.int .i64 p.funcs.length] t)).alloc (.cells #[.int .i64 (headN p)] t)).alloc (.cells #[.int .i64 (recN p)] t)).alloc (.cells #[.slice none 0 0] 31)).heap[w1.heap.size + 1]? = some (.cells #[.int .i64 (headN p)] t) := by
      rw [heap_alloc_old _ _ (by simp), heap_alloc_old _ _ (by simp)]
      have := heap_alloc_new (w1.alloc (.cells #[.int .i64 p.funcs.length] t)) (.cells #[.int .i64 (headN p)] t)
      simpa using this
    exact cell_of_one this
  · have : ((((w1.alloc (.cells #[.int .i64 p.funcs.length] t)).alloc (.cells #[.int .i64 (headN p)] t)).alloc (.cells #[.int .i64 (recN p)] t)).alloc (.cells #[.slice none 0 0] 31)).heap[w1.heap.size]? = some (.cells #[.int .i64 p.funcs.length] t) := by
      rw [heap_alloc_old _ _ (by simp; omega), heap_alloc_old _ _ (by simp; omega), heap_alloc_old _ _ (by simp)]
      exact heap_alloc_new w1 _
    exact cell_of_one this
  · have : ((((w1.alloc (.cells #[.int .i64 p.funcs.length] t)).alloc (.cells #[.int .i64 (headN p)] t)).alloc (.cells #[.int .i64 (recN p)] t)).alloc (.cells #[.slice none 0 0] 31)).heap[w1.heap.size + 1 + 1]? = some (.cells #[.int .i64 (recN p)] t) := by
      rw [heap_alloc_old _ _ (by simp)]
      have := heap_alloc_new ((w1.alloc (.cells #[.int .i64 p.funcs.length] t)).alloc (.cells #[.int .i64 (headN p)] t)) (.cells #[.int .i64 (recN p)] t)
      simpa using this
    exact cell_of_one this
  · have := heap_alloc_new (((w1.alloc (.cells #[.int .i64 p.funcs.length] t)).alloc (.cells #[.int .i64 (headN p)] t)).alloc (.cells #[.int .i64 (recN p)] t)) (.cells #[.slice none 0 0] 31)
    simpa using this

/-- what holds at the head of the round of function k -/
structure R2 (p : Pg) (W wr : World) (Bb k : Nat) (ov rv v : Value) (os rs ys : List UInt8) : Prop where
  own : Own3 wr Bb ov rv v os rs (behind0 p ++ ys)
  ys_ : ys ++ behB (p.funcs.drop k) = behB p.funcs
  os_ : os ++ tabB p (bndN p k) (headN p + rs.length) (p.funcs.drop k) = hdrB p ++ tabB p p.start (headN p) p.funcs
  rs_ : rs ++ recsB p (bndN p k) (baseN p + (behind0 p ++ ys).length) (p.funcs.drop k) = recsB p p.start (baseN p + (behind0 p).length) p.funcs
  bel : Below Bb W wr
theorem behB_step (ys : List UInt8) (f : Fn) (fs : List Fn) : (ys ++ fnBehind f) ++ behB fs = ys ++ behB (f :: fs) := by simp [behB]
theorem tabB_step (p : Pg) (os rs r : List UInt8) (frm : Nat) (f : Fn) (fs : List Fn) (hr : r.length = recN p) : (os ++ wordB p frm ++ wordB p (headN p + rs.length)) ++ tabB p (frm + fsz p f) (headN p + (rs ++ r).length) fs = os ++ tabB p frm (headN p + rs.length) (f :: fs) := by
  simp [tabB, hr, Nat.add_assoc]
theorem recsB_step (p : Pg) (rs zs : List UInt8) (frm : Nat) (f : Fn) (fs : List Fn) : (rs ++ recB p frm (baseN p + zs.length) f) ++ recsB p (frm + fsz p f) (baseN p + (zs ++ fnBehind f).length) fs = rs ++ recsB p frm (baseN p + zs.length) (f :: fs) := by
  simp [recsB, Nat.add_assoc]
theorem R2.next {p : Pg} {W wr w' : World} {Bb k : Nat} {ov rv v ov' rv' v' : Value} {os rs ys : List UInt8} (h : R2 p W wr Bb k ov rv v os rs ys) (hk : k < p.funcs.length)
    (hown : Own3 w' Bb ov' rv' v' (os ++ wordB p (bndN p k) ++ wordB p (headN p + rs.length)) (rs ++ recB p (bndN p k) (baseN p + (behind0 p ++ ys).length) p.funcs[k]) (behind0 p ++ ys ++ fnBehind p.funcs[k])) (hb : Below Bb W w') :
    R2 p W w' Bb (k + 1) ov' rv' v' (os ++ wordB p (bndN p k) ++ wordB p (headN p + rs.length)) (rs ++ recB p (bndN p k) (baseN p + (behind0 p ++ ys).length) p.funcs[k]) (ys ++ fnBehind p.funcs[k]) := by
  have e := drop_cons p.funcs k hk
  have h1 := h.ys_
  have h2 := h.os_
  have h3 := h.rs_
  rw [e] at h1 h2 h3
  refine ⟨by rw [← List.append_assoc]; exact hown, (behB_step _ _ _).trans h1, ?_, ?_, hb⟩
  · rw [bndN_succ p k hk]; exact (tabB_step p os rs _ _ _ _ (recB_length _ _ _ _)).trans h2
  · rw [bndN_succ p k hk, ← List.append_assoc]; exact (recsB_step p rs (behind0 p ++ ys) _ _ _).trans h3
theorem R2.le {p : Pg} {W wr : World} {Bb k : Nat} {ov rv v : Value} {os rs ys : List UInt8} (h : R2 p W wr Bb k ov rv v os rs ys) (H : WellP p) (hk : k < p.funcs.length) :
    os.length + wszN p + wszN p ≤ 2000 ∧ rs.length + recN p ≤ 4000 ∧ (behind0 p ++ ys).length + (fnBehind p.funcs[k]).length ≤ 401000 := by
  have e := drop_cons p.funcs k hk
  have h1 := congrArg List.length h.ys_
  have h2 := congrArg List.length h.os_
  have h3 := congrArg List.length h.rs_
  rw [e] at h1 h2 h3
  have hp := H.parts_le
  have hfl := H.head.fl
  have a1 : (2 * p.funcs.length + 1) * wszN p ≤ 201 * 8 := Nat.mul_le_mul (by omega) (by rcases wszN_or p with h | h <;> omega)
  have a2 : p.funcs.length * recN p ≤ 100 * 40 := Nat.mul_le_mul (by omega) hp.2.1
  have hw : wszN p ≤ 8 := by rcases wszN_or p with h | h <;> omega
  simp only [behB, List.flatMap_cons, List.length_append, tabB, recsB, wordB_length, recB_length, tabB_length, recsB_length, hdrB_length] at h1 h2 h3 hp ⊢
  omega
/-- the relation of the rounds -/
def Rel2 (p : Pg) (W : World) (Bb : Nat) (rv ov la i : Value) (wr : World) : Prop := ∃ (k : Nat) (os rs ys : List UInt8) (v : Value), k ≤ p.funcs.length ∧ i = .int .i64 k ∧ la = .int .u64 (bndN p k) ∧ R2 p W wr Bb k ov rv v os rs ys

set_option maxRecDepth 100000 in
set_option maxHeartbeats 40000000 in
theorem bytes_any (FA SA : Option Addr) (fc sc : Nat) (p : Pg) (B : Nat) (w : World) (H : PgOk w B FA SA fc sc p) (hw : WellP p) :
    Calls Try.prog 11 #[pgv FA SA fc sc p] w (Wrote (bytesB p) w) := by
  have HB := Lib.hid (pbox_below w FA SA fc sc p 26)
  have HBX := Lib.hid (pbox_new w FA SA fc sc p 26)
  have HW := Lib.hid hw
  have HH := Lib.hid H
  have hfl := hw.head.fl
  have hsl := hw.head.sl
  have hmf : ∀ (fn : Go.Fn) (first cap : Array Value) (w : World), (Instr.makeFunc fn first cap).run Try.prog w = .ok (.func fn first cap) w := fun _ _ _ _ => rfl
  clear hw
  go_enter Try.func11, Try.ntmps11
  go_wp2_with fail
  refine (word_any FA SA fc sc p 0 _ (by omega)).mono ?_
  intro e w1 h1
  obtain ⟨g1, cp1, rfl, hO1, hb1⟩ := h1
  rw [wordB_length]
  have BX1 := HBX.out.keep hb1 (by simp)
  have HBX1 := Lib.hid BX1
  have b1 := BX1.c1
  have hlt1 := BX1.lt
  have hwb1 : Below w.heap.size w w1 := HB.out.trans (hb1.mono (by simp))
  have hs8 : wszN p ≤ 8 := by rcases wszN_or p with h | h <;> omega
  obtain ⟨m, hmm⟩ : ∃ m : Nat, m = (2 * p.funcs.length + 1) * wszN p := ⟨_, rfl⟩
  have hm8 : m ≤ 1608 := by rw [hmm]; exact Nat.le_trans (Nat.mul_le_mul (by omega : 2 * p.funcs.length + 1 ≤ 201) hs8) (by omega)
  have hmul : (2 * (p.funcs.length : Int) + 1) * (wszN p : Int) = (m : Int) := by rw [hmm]; push_cast; rfl
  have HHD : Hid (((8 : Int) + wszN p + m + 4) = headN p) := Lib.hid (by unfold headN; rw [← hmm]; push_cast; rfl)
  have HRC : Hid ((wszN p : Int) + 32 = recN p) := Lib.hid (by unfold recN; push_cast; rfl)
  have hbx1 := Lib.hid BX1
  clear BX1 hb1 hO1 hmm H
  go_upto_region 8 with fail
  have hW : ∃ W, W = (((w1.alloc (.cells #[.int .i64 p.funcs.length] 3)).alloc (.cells #[.int .i64 (8 + (wszN p : Int) + m + 4)] 3)).alloc (.cells #[.int .i64 ((wszN p : Int) + 32)] 3)).alloc (.cells #[.slice none 0 0] 31) := ⟨_, rfl⟩
  obtain ⟨W, hWe⟩ := hW
  obtain ⟨henv, hbeh, hb2, hsW⟩ := env_made w1 W w.heap.size FA SA fc sc p _ _ _ _ hbx1.out rfl HHD.out HRC.out hWe
  have hwbW : Below w.heap.size w W := hwb1.trans (hb2.mono (Nat.le_of_lt hlt1))
  rw [← hWe]
  rw [HHD.out, HRC.out]
  have hbb : w.heap.size < w1.heap.size + 1 + 1 + 1 := by omega
  generalize w1.heap.size + 1 + 1 + 1 = Bb at *
  generalize w1.heap.size + 1 + 1 = Br at *
  generalize w1.heap.size + 1 = Bh at *
  generalize w1.heap.size = Bn at *
  have HENV := Lib.hid henv
  have HBEH := Lib.hid hbeh
  have HSW := Lib.hid hsW
  have HBW := Lib.hid hwbW
  have b2 := henv.box.c2
  clear hWe b1 hb2 hwb1 hmul henv hbeh hsW hwbW HHD HRC hbx1 hlt1
  go_wp2_with fail
  have hst := HH.out.st.keep (HBW.out.mono HH.out.bd)
  have hBb : B ≤ Bb := Nat.le_trans HH.out.bd (Nat.le_of_lt hbb)
  go_loopw [9, 43] (fun nv i wr => ∃ (k : Nat) (xs ys : List UInt8) (v : Value), k ≤ p.files.length ∧ i = .int .i64 k ∧ Beh wr Bb (Bb + 1) v ys ∧ ys ++ filesB (p.files.drop k) = filesB p.files ∧
      OwnV wr (Bb + 1) nv xs ∧ xs ++ namesB p.big (baseN p + ys.length) (p.files.drop k) = namesB p.big (baseN p) p.files ∧ (nv.ownBlock = none ∨ nv.ownBlock ≠ v.ownBlock) ∧ Below Bb W wr) (fun _ i _ => p.files.length - (intOf i).toNat)
  case atStart => exact ⟨0, [], [], _, Nat.zero_le _, rfl, HBEH.out, rfl, World.ownsRow_nil _ _ _ _, rfl, .inl rfl, Below.refl _ _⟩
  case round =>
    obtain ⟨k, xs, ys, v, hk, rfl, hbeh, hys, hown, hxs, hdis, hb⟩ := hrel
    have HY := Lib.hid hys
    have HX := Lib.hid hxs
    have HDIS := Lib.hid hdis
    have HBE := Lib.hid hbeh
    have HOW := Lib.hid hown
    clear hys hxs hdis hbeh hown
    by_cases hlt : k < p.files.length
    · obtain ⟨b, off, rfl, hbB, h1⟩ := (hst.keep (hb.mono hBb)) k hlt
      have hx := HENV.out.keep hb
      have HXE := Lib.hid hx
      have c0 := hx.box.c0
      have c1 := hx.box.c1
      have c2 := hx.box.c2
      have c3 := hx.box.c3
      have c4 := hx.box.c4
      have c5 := hx.box.c5
      clear hx
      go_upto_region 11 with fail
      have hcv := fun w' => Lib.run_convert_string_bytes (P := Try.prog) w' 9 31 5 p.files[k] Try.underlying9 Try.underlying31 Try.underlying5
      have hBle : Bb + 1 ≤ wr.heap.size := (Array.getElem?_eq_some_iff.1 HBE.out.one).1
      have hbsz := fun w' => Lib.bytesWorld_size w' 5 p.files[k]
      have HA := Lib.hid (order_tz wr.drew p.files[k] 5)
      have HZ := Lib.hid (order_zt wr.drew p.files[k] 5)
      have hfs : p.files[k].size ≤ 1000 := (HW.out.files k hlt).1.le
      obtain ⟨q, hq⟩ : ∃ q, p.funcs.length * recN p = q := ⟨_, rfl⟩
      obtain ⟨N, hN⟩ : ∃ N, headN p + q + ys.length = N := ⟨_, rfl⟩
      have hgBb := HENV.out.hg
      have hNB : N = baseN p + ys.length := by rw [← hN, ← hq]; rfl
      have hyl : ys.length + (strZ p.files[k]).length ≤ 100100 := by
        have h1 := congrArg List.length HY.out
        have h2 := HW.out.parts_le.2.2.2.1
        rw [drop_cons _ _ hlt] at h1
        simp only [filesB, List.flatMap_cons, List.length_append] at h1 h2
        omega
      have hN6 : N ≤ 105800 := by have := HW.out.parts_le.2.2.1; omega
      have hxl : xs.length + 4 ≤ 400 := by
        have h1 := congrArg List.length HX.out
        rw [drop_cons _ _ hlt] at h1
        simp only [namesB, List.length_append, namesB_length, numB_length] at h1
        omega
      have hNw := wrap_small N (by omega)
      have HN := Lib.hid hN
      have HQ := Lib.hid hq
      have HNB := Lib.hid hNB
      have hhq : headN p + q ≤ 5700 := by have := HW.out.parts_le.2.2.1; have := HQ.out; unfold baseN at *; omega
      have HY2 : Hid ((ys ++ strZ p.files[k]) ++ filesB (p.files.drop (k + 1)) = filesB p.files) := by
        refine Lib.hid ?_
        have h := HY.out
        rw [drop_cons _ _ hlt] at h
        exact (filesB_step _ _ _).trans h
      have HX2 : Hid ((xs ++ numB p.big N 4) ++ namesB p.big (baseN p + (ys ++ strZ p.files[k]).length) (p.files.drop (k + 1)) = namesB p.big (baseN p) p.files) := by
        refine Lib.hid ?_
        have h := HX.out
        rw [drop_cons _ _ hlt] at h
        rw [HNB.out]
        exact (namesB_step _ _ _ _ _ _).trans h
      clear hN hq hNB
      generalize p.files[k] = f at *
      -- [R11
      refine wp_region_noPanic ?_
      refine wp_region_held_drew (S := fun w' => (∀ b o, b < Bb → w'.cell? ⟨b, o, none⟩ = wr.cell? ⟨b, o, none⟩) ∧ Below Bb wr w') (by kernel_rfl) (sts_mk (Below.refl _ _).drew) (fun hHeld => ?_)
      refine wpAnyH_take (i := 0) (oi := _) (v := ?_) rfl (by kernel_rfl) (by kernel_rfl) (by kernel_rfl) (fun _ _ _ h => h) (Or.inl ⟨by rfl, ?_⟩) (by assumption) ?_
      rotate_left 1
      · intro wS hSw
        try dsimp only at hSw
        go_simp
        try with_reducible rfl
      try simp only [List.getElem_toArray, List.getElem_cons_zero, Act.put, List.setIfInBounds_toArray, List.set_cons_zero, List.set_cons_succ]
      refine wpAnyH_take (i := 1) (oi := _) (v := ?_) rfl (by kernel_rfl) (by kernel_rfl) (by kernel_rfl) (fun _ _ _ h => h) (Or.inl ⟨by rfl, ?_⟩) (by assumption) ?_
      rotate_left 1
      · intro wS hSw
        try dsimp only at hSw
        go_simp
        try with_reducible rfl
      try simp only [List.getElem_toArray, List.getElem_cons_zero, List.getElem_cons_succ, Act.put, List.setIfInBounds_toArray, List.set_cons_zero, List.set_cons_succ]
      refine wpAnyH_take (i := 2) (oi := _) (v := ?_) rfl (by kernel_rfl) (by kernel_rfl) (by kernel_rfl) (fun _ _ _ h => h) (Or.inl ⟨by rfl, ?_⟩) (by assumption) ?_
      rotate_left 1
      · intro wS hSw
        try dsimp only at hSw
        go_simp
        try with_reducible rfl
      try simp only [List.getElem_toArray, List.getElem_cons_zero, List.getElem_cons_succ, Act.put, List.setIfInBounds_toArray, List.set_cons_zero, List.set_cons_succ]
      refine wpAnyH_take (i := 3) (oi := _) (v := ?_) rfl (by kernel_rfl) (by kernel_rfl) (by kernel_rfl) (fun _ _ _ h => h) (Or.inl ⟨by rfl, ?_⟩) (by assumption) ?_
      rotate_left 1
      · intro wS hSw
        try dsimp only at hSw
        go_simp
        try with_reducible rfl
      try simp only [List.getElem_toArray, List.getElem_cons_zero, List.getElem_cons_succ, Act.put, List.setIfInBounds_toArray, List.set_cons_zero, List.set_cons_succ]
      refine wpAnyH_ready (rs := [4, 5]) (by kernel_rfl) (by simp) ?_
      refine AllReadyH.cons (o := _) rfl (fun K hK => ?_) ?_
      · go_simp
        refine hK.out _ _ (sts_bytes (Nat.le_of_succ_le hBle) hHeld) (fun hHeld2 => ?_)
        clear hK K hHeld
        have hHeld := hHeld2
        clear hHeld2
        try simp only [List.getElem_toArray, List.getElem_cons_zero, List.getElem_cons_succ, Act.put, List.setIfInBounds_toArray, List.set_cons_zero, List.set_cons_succ]
        refine wpAnyH_ready (rs := [5]) (by kernel_rfl) (by simp) ?_
        refine AllReadyH.cons (o := _) rfl (fun K hK => ?_) ?_
        · go_simp
          refine hK.out _ _ (sts_alloc (Nat.le_of_succ_le hBle) hHeld) (fun hHeld2 => ?_)
          clear hK K hHeld
          have hHeld := hHeld2
          clear hHeld2
          try simp only [List.getElem_toArray, List.getElem_cons_zero, List.getElem_cons_succ, Act.put, List.setIfInBounds_toArray, List.set_cons_zero, List.set_cons_succ]
          refine wpAnyH_ready (rs := [6]) (by kernel_rfl) (by simp) ?_
          refine AllReadyH.cons (o := _) rfl (fun K hK => ?_) ?_
          · refine step_strz _ (by rfl) _ _ (by rfl) wr.heap.size (wr.heap.size + 1) f _ _ (by rfl) (by rfl) HA.out.1 (bytesCells_size _ _ _) (bytesCells_pre _ _ _) HA.out.2.1 (by omega) ?_
            intro gz capz w3 hcz hfz
            have hpre : Below wr.heap.size wr w3 := ((Below.refl _ _).drew.trans (HA.out.2.2)).trans (hfz.below (B := wr.heap.size) (Nat.le_trans (Nat.le_refl _) HA.out.2.2.size) (by intro k hk e; omega))
            have hstep := hfz.below (B := Bb) (Nat.le_trans (Nat.le_of_succ_le hBle) HA.out.2.2.size) (by intro k hk e; omega)
            clear hfz
            refine hK.out _ _ (sts_next hHeld hstep) (fun hHeld2 => ?_)
            clear hK K hHeld
            have hHeld := hHeld2
            clear hHeld2
            try simp only [List.getElem_toArray, List.getElem_cons_zero, List.getElem_cons_succ, Act.put, List.setIfInBounds_toArray, List.set_cons_zero, List.set_cons_succ]
            refine wpAnyH_ready (rs := [7]) (by kernel_rfl) (by simp) ?_
            refine AllReadyH.cons (o := _) rfl (fun K hK => ?_) ?_
            · go_simp
              go_at_call 28
              refine (put_any Bh Bn Br Bb (headN p) p.funcs.length (recN p) q N v ys (strZ f) ⟨gz, 0, none⟩ _ _ (Bb + 1) _ (HXE.out.keep (hpre.mono (Nat.le_of_succ_le hBle))).ch (HXE.out.keep (hpre.mono (Nat.le_of_succ_le hBle))).cn (HXE.out.keep (hpre.mono (Nat.le_of_succ_le hBle))).cr (HBE.out.keep (Fr.of_below (S := fun _ => False) hpre) (fun h => h) (fun _ _ h => h)) hcz (strZ_length f).symm (by omega) (Nat.le_trans hBle hpre.size) HQ.out (by omega) HN.out).mono ?_
              rintro e w4 ⟨rfl, v4, hbeh4, hloc4, hfr4⟩
              have hstep := put_below HBE.out hpre.size hfr4
              have hown4 := own_after_put HOW.out HDIS.out hpre hfr4
              have hap4 := apart_put HOW.out HDIS.out hpre.size hloc4
              have hsz34 := hfr4.size
              clear hloc4 hfr4
              go_wp2_with fail
              refine hK.out _ _ (sts_next hHeld hstep) (fun hHeld2 => ?_)
              clear hK K hHeld
              have hHeld := hHeld2
              clear hHeld2
              try simp only [List.getElem_toArray, List.getElem_cons_zero, List.getElem_cons_succ, Act.put, List.setIfInBounds_toArray, List.set_cons_zero, List.set_cons_succ]
              refine wpAnyH_take (i := 8) (oi := _) (v := ?_) rfl (by kernel_rfl) (by kernel_rfl) (by kernel_rfl) (fun _ _ _ h => h) (Or.inl ⟨by rfl, ?_⟩) (by assumption) ?_
              rotate_left 1
              · intro wS hSw
                try dsimp only at hSw
                go_simp
                try with_reducible rfl
              try simp only [List.getElem_toArray, List.getElem_cons_zero, List.getElem_cons_succ, Act.put, List.setIfInBounds_toArray, List.set_cons_zero, List.set_cons_succ]
              refine wpAnyH_ready (rs := [9]) (by kernel_rfl) (by simp) ?_
              refine AllReadyH.cons (o := _) rfl (fun K hK => ?_) ?_
              · go_simp
                go_at_call 29
                refine (number_any FA _ fc sc p N 4 _ (by omega) (by omega)).mono ?_
                rintro e w5 ⟨g5, cp5, rfl, hO5, hb5⟩
                have hstep := hb5.mono (Nat.le_trans (Nat.le_of_succ_le hBle) (Nat.le_trans hpre.size hsz34))
                have hown5 := ownsRow_below hown4 hb5
                have hbeh5 := hbeh4.keep (Fr.of_below (S := fun _ => False) hb5) (fun h => h) (fun _ _ h => h)
                go_wp2_with fail
                refine hK.out _ _ (sts_next hHeld hstep) (fun hHeld2 => ?_)
                clear hK K hHeld
                have hHeld := hHeld2
                clear hHeld2
                try simp only [List.getElem_toArray, List.getElem_cons_zero, List.getElem_cons_succ, Act.put, List.setIfInBounds_toArray, List.set_cons_zero, List.set_cons_succ]
                refine wpAnyH_ready (rs := [10]) (by kernel_rfl) (by simp) ?_
                refine AllReadyH.cons (o := _) rfl (fun K hK => ?_) ?_
                · refine step_app _ (by rfl) (.tmp 47) (.tmp 56) (by rfl) (Bb + 1) u9 xs (by rfl) hown5 ⟨g5, 0, none⟩ _ cp5 (numB p.big N 4) (by rfl) (by rfl) hO5.cells (by rw [numB_length]; omega) (Nat.le_trans (Nat.le_trans hBle (Nat.le_trans hpre.size hsz34)) hb5.size) ?_
                  intro v6 w6 hown6 hgrow6 hb6 hloc6
                  have hstep := hb6.mono (Nat.le_succ _)
                  have hbeh6 := beh_after_app hbeh5 hown5 hap4 hgrow6
                  have hap6 := apart_app hbeh5.own hap4 hloc6
                  clear hloc6
                  refine hK.out _ _ (sts_next hHeld hstep) (fun hHeld2 => ?_)
                  clear hK K hHeld
                  have hHeld := hHeld2
                  clear hHeld2
                  try simp only [List.getElem_toArray, List.getElem_cons_zero, List.getElem_cons_succ, Act.put, List.setIfInBounds_toArray, List.set_cons_zero, List.set_cons_succ]
                  refine wpAnyH_take (i := 11) (oi := _) (v := ?_) rfl (by kernel_rfl) (by kernel_rfl) (by kernel_rfl) (fun _ _ _ h => h) (Or.inl ⟨by rfl, ?_⟩) (by assumption) ?_
                  rotate_left 1
                  · intro wS hSw
                    try dsimp only at hSw
                    go_simp
                    try with_reducible rfl
                  try simp only [List.getElem_toArray, List.getElem_cons_zero, List.getElem_cons_succ, Act.put, List.setIfInBounds_toArray, List.set_cons_zero, List.set_cons_succ]
                  refine wpAnyH_done (by kernel_rfl) ?_ _
                  refine NoPanic.normal ?_
                  go_wp2_with fail
                  exact ⟨⟨k + 1, _, _, v4, by omega, by go_num, hbeh6, HY2.out, hown6, HX2.out, hap6, hb.trans hHeld.2⟩, by simp [intOf]; omega⟩
                exact AllReadyH.nil
              exact AllReadyH.nil
            exact AllReadyH.nil
          exact AllReadyH.nil
        exact AllReadyH.nil
      refine AllReadyH.cons (o := _) rfl (fun K hK => ?_) ?_
      · go_simp
        refine hK.out _ _ (sts_alloc (Nat.le_of_succ_le hBle) hHeld) (fun hHeld2 => ?_)
        clear hK K hHeld
        have hHeld := hHeld2
        clear hHeld2
        try simp only [List.getElem_toArray, List.getElem_cons_zero, List.getElem_cons_succ, Act.put, List.setIfInBounds_toArray, List.set_cons_zero, List.set_cons_succ]
        refine wpAnyH_ready (rs := [4]) (by kernel_rfl) (by simp) ?_
        refine AllReadyH.cons (o := _) rfl (fun K hK => ?_) ?_
        · go_simp
          refine hK.out _ _ (sts_bytes (Nat.le_of_succ_le hBle) hHeld) (fun hHeld2 => ?_)
          clear hK K hHeld
          have hHeld := hHeld2
          clear hHeld2
          try simp only [List.getElem_toArray, List.getElem_cons_zero, List.getElem_cons_succ, Act.put, List.setIfInBounds_toArray, List.set_cons_zero, List.set_cons_succ]
          refine wpAnyH_ready (rs := [6]) (by kernel_rfl) (by simp) ?_
          refine AllReadyH.cons (o := _) rfl (fun K hK => ?_) ?_
          · refine step_strz _ (by rfl) _ _ (by rfl) (wr.heap.size + 1) wr.heap.size f _ _ (by rfl) (by rfl) HZ.out.1 (bytesCells_size _ _ _) (bytesCells_pre _ _ _) HZ.out.2.1 (by omega) ?_
            intro gz capz w3 hcz hfz
            have hpre : Below wr.heap.size wr w3 := ((Below.refl _ _).drew.trans (HZ.out.2.2)).trans (hfz.below (B := wr.heap.size) (Nat.le_trans (Nat.le_refl _) HZ.out.2.2.size) (by intro k hk e; omega))
            have hstep := hfz.below (B := Bb) (Nat.le_trans (Nat.le_of_succ_le hBle) HZ.out.2.2.size) (by intro k hk e; omega)
            clear hfz
            refine hK.out _ _ (sts_next hHeld hstep) (fun hHeld2 => ?_)
            clear hK K hHeld
            have hHeld := hHeld2
            clear hHeld2
            try simp only [List.getElem_toArray, List.getElem_cons_zero, List.getElem_cons_succ, Act.put, List.setIfInBounds_toArray, List.set_cons_zero, List.set_cons_succ]
            refine wpAnyH_ready (rs := [7]) (by kernel_rfl) (by simp) ?_
            refine AllReadyH.cons (o := _) rfl (fun K hK => ?_) ?_
            · go_simp
              go_at_call 28
              refine (put_any Bh Bn Br Bb (headN p) p.funcs.length (recN p) q N v ys (strZ f) ⟨gz, 0, none⟩ _ _ (Bb + 1) _ (HXE.out.keep (hpre.mono (Nat.le_of_succ_le hBle))).ch (HXE.out.keep (hpre.mono (Nat.le_of_succ_le hBle))).cn (HXE.out.keep (hpre.mono (Nat.le_of_succ_le hBle))).cr (HBE.out.keep (Fr.of_below (S := fun _ => False) hpre) (fun h => h) (fun _ _ h => h)) hcz (strZ_length f).symm (by omega) (Nat.le_trans hBle hpre.size) HQ.out (by omega) HN.out).mono ?_
              rintro e w4 ⟨rfl, v4, hbeh4, hloc4, hfr4⟩
              have hstep := put_below HBE.out hpre.size hfr4
              have hown4 := own_after_put HOW.out HDIS.out hpre hfr4
              have hap4 := apart_put HOW.out HDIS.out hpre.size hloc4
              have hsz34 := hfr4.size
              clear hloc4 hfr4
              go_wp2_with fail
              refine hK.out _ _ (sts_next hHeld hstep) (fun hHeld2 => ?_)
              clear hK K hHeld
              have hHeld := hHeld2
              clear hHeld2
              try simp only [List.getElem_toArray, List.getElem_cons_zero, List.getElem_cons_succ, Act.put, List.setIfInBounds_toArray, List.set_cons_zero, List.set_cons_succ]
              refine wpAnyH_take (i := 8) (oi := _) (v := ?_) rfl (by kernel_rfl) (by kernel_rfl) (by kernel_rfl) (fun _ _ _ h => h) (Or.inl ⟨by rfl, ?_⟩) (by assumption) ?_
              rotate_left 1
              · intro wS hSw
                try dsimp only at hSw
                go_simp
                try with_reducible rfl
              try simp only [List.getElem_toArray, List.getElem_cons_zero, List.getElem_cons_succ, Act.put, List.setIfInBounds_toArray, List.set_cons_zero, List.set_cons_succ]
              refine wpAnyH_ready (rs := [9]) (by kernel_rfl) (by simp) ?_
              refine AllReadyH.cons (o := _) rfl (fun K hK => ?_) ?_
              · go_simp
                go_at_call 29
                refine (number_any FA _ fc sc p N 4 _ (by omega) (by omega)).mono ?_
                rintro e w5 ⟨g5, cp5, rfl, hO5, hb5⟩
                have hstep := hb5.mono (Nat.le_trans (Nat.le_of_succ_le hBle) (Nat.le_trans hpre.size hsz34))
                have hown5 := ownsRow_below hown4 hb5
                have hbeh5 := hbeh4.keep (Fr.of_below (S := fun _ => False) hb5) (fun h => h) (fun _ _ h => h)
                go_wp2_with fail
                refine hK.out _ _ (sts_next hHeld hstep) (fun hHeld2 => ?_)
                clear hK K hHeld
                have hHeld := hHeld2
                clear hHeld2
                try simp only [List.getElem_toArray, List.getElem_cons_zero, List.getElem_cons_succ, Act.put, List.setIfInBounds_toArray, List.set_cons_zero, List.set_cons_succ]
                refine wpAnyH_ready (rs := [10]) (by kernel_rfl) (by simp) ?_
                refine AllReadyH.cons (o := _) rfl (fun K hK => ?_) ?_
                · refine step_app _ (by rfl) (.tmp 47) (.tmp 56) (by rfl) (Bb + 1) u9 xs (by rfl) hown5 ⟨g5, 0, none⟩ _ cp5 (numB p.big N 4) (by rfl) (by rfl) hO5.cells (by rw [numB_length]; omega) (Nat.le_trans (Nat.le_trans hBle (Nat.le_trans hpre.size hsz34)) hb5.size) ?_
                  intro v6 w6 hown6 hgrow6 hb6 hloc6
                  have hstep := hb6.mono (Nat.le_succ _)
                  have hbeh6 := beh_after_app hbeh5 hown5 hap4 hgrow6
                  have hap6 := apart_app hbeh5.own hap4 hloc6
                  clear hloc6
                  refine hK.out _ _ (sts_next hHeld hstep) (fun hHeld2 => ?_)
                  clear hK K hHeld
                  have hHeld := hHeld2
                  clear hHeld2
                  try simp only [List.getElem_toArray, List.getElem_cons_zero, List.getElem_cons_succ, Act.put, List.setIfInBounds_toArray, List.set_cons_zero, List.set_cons_succ]
                  refine wpAnyH_take (i := 11) (oi := _) (v := ?_) rfl (by kernel_rfl) (by kernel_rfl) (by kernel_rfl) (fun _ _ _ h => h) (Or.inl ⟨by rfl, ?_⟩) (by assumption) ?_
                  rotate_left 1
                  · intro wS hSw
                    try dsimp only at hSw
                    go_simp
                    try with_reducible rfl
                  try simp only [List.getElem_toArray, List.getElem_cons_zero, List.getElem_cons_succ, Act.put, List.setIfInBounds_toArray, List.set_cons_zero, List.set_cons_succ]
                  refine wpAnyH_done (by kernel_rfl) ?_ _
                  refine NoPanic.normal ?_
                  go_wp2_with fail
                  exact ⟨⟨k + 1, _, _, v4, by omega, by go_num, hbeh6, HY2.out, hown6, HX2.out, hap6, hb.trans hHeld.2⟩, by simp [intOf]; omega⟩
                exact AllReadyH.nil
              exact AllReadyH.nil
            exact AllReadyH.nil
          exact AllReadyH.nil
        exact AllReadyH.nil
      exact AllReadyH.nil
      -- R11]
    · -- AFTER1
      obtain rfl : k = p.files.length := by omega
      rw [List.drop_length] at *
      have hye : ys = filesB p.files := by have := HY.out; simpa [filesB] using this
      have hxe : xs = namesB p.big (baseN p) p.files := by have := HX.out; simpa [namesB] using this
      subst hye hxe
      have hfpos : 0 < p.files.length := by
        have h1 := (HW.out.funcs 0 HW.out.head.pos).files
        have h2 := (h1.each 0 h1.pos)
        have := h2.v1; have := h2.v2; omega
      obtain ⟨gn, cn, hnv, hgn⟩ := ownsRow_slice HOW.out (by rw [namesB_length]; omega)
      clear HY HX
      subst hnv
      have hx := HENV.out.keep hb
      have HXE := Lib.hid hx
      have c0 := hx.box.c0
      have c1 := hx.box.c1
      have c2 := hx.box.c2
      have c3 := hx.box.c3
      have c4 := hx.box.c4
      have c5 := hx.box.c5
      clear hx
      go_wp2_with fail
      have hnfw : (p.files.length : Int) + 1 = ((p.files.length + 1 : Nat) : Int) := by push_cast; rfl
      rw [hnfw]
      clear hnfw
      refine (number_any FA _ fc sc p (p.files.length + 1) 4 _ (by omega) (by omega)).mono ?_
      rintro e w2 ⟨g2, cp2, rfl, hO2, hb2⟩
      rw [numB_length] at *
      have hown2 := ownsRow_below HOW.out hb2
      have hV2 := hO2.toV (numB_length _ _ _)
      have hBle : Bb + 1 ≤ wr.heap.size := (Array.getElem?_eq_some_iff.1 HBE.out.one).1
      have hpl := HW.out.parts_le
      have HPL := Lib.hid hpl
      clear hpl
      have hnl : (namesB p.big (baseN p) p.files).length ≤ 400 := by rw [namesB_length]; omega
      obtain ⟨q, hq⟩ : ∃ q, p.funcs.length * recN p = q := ⟨_, rfl⟩
      have hN : headN p + q + (filesB p.files).length = filesOff p := by rw [← hq]; rfl
      have hhq : headN p + q ≤ 5700 := by have := HPL.out.2.2.1; unfold baseN at this; omega
      have HN := Lib.hid hN
      have HQ := Lib.hid hq
      clear hq hN
      go_wp2_with (first | (at_builtin; refine app_bytes _ rfl (.tmp 66) (.tmp 67) rfl wr.heap.size (.slice (some ⟨g2, 0, none⟩) 4 cp2) (numB p.big (p.files.length + 1) 4) rfl hV2 ⟨gn, 0, none⟩ _ cn (namesB p.big (baseN p) p.files) rfl rfl (hown2.cells rfl) (by rw [numB_length]; omega) hb2.size ?_; intro v3 w3 hown3 hgrow3 hb3 _; obtain ⟨g3, cp3, hv3⟩ := hown3.slice (by rw [List.length_append, numB_length]; omega); rw [List.length_append, numB_length] at hv3; subst hv3))
      have hpre3 : Below wr.heap.size wr w3 := hb2.trans hb3
      refine (put_any Bh Bn Br Bb (headN p) p.funcs.length (recN p) q (filesOff p) v (filesB p.files) (numB p.big (p.files.length + 1) 4 ++ namesB p.big (baseN p) p.files) ⟨g3, 0, none⟩ _ _ (Bb + 1) _ (HXE.out.keep (hpre3.mono (Nat.le_of_succ_le hBle))).ch (HXE.out.keep (hpre3.mono (Nat.le_of_succ_le hBle))).cn (HXE.out.keep (hpre3.mono (Nat.le_of_succ_le hBle))).cr
        (HBE.out.keep (Fr.of_below (S := fun _ => False) hpre3) (fun h => h) (fun _ _ h => h)) (hown3.cells rfl) (by rw [List.length_append, numB_length]) (by have := HPL.out.2.2.2.1; rw [List.length_append, numB_length]; omega) (Nat.le_trans hBle hpre3.size) HQ.out (by omega) HN.out).mono ?_
      rintro e w4 ⟨rfl, v4, hbeh4, hloc4, hfr4⟩
      have hb4 : Below Bb W w4 := hb.trans ((hpre3.mono (Nat.le_of_succ_le hBle)).trans (put_below HBE.out hpre3.size hfr4))
      have HBE4 := Lib.hid hbeh4
      clear HBE HOW hbeh4 hloc4 hfr4 hown2 hV2 hO2 hown3 hgrow3 hb3 hpre3 hb2 hb HXE HQ HN c0 c1 c2 c3 c4 c5 HDIS hbb hfpos hgn
      have hx := HENV.out.keep hb4
      have HXE := Lib.hid hx
      have c0 := hx.box.c0
      have c1 := hx.box.c1
      have c2 := hx.box.c2
      have c3 := hx.box.c3
      have c4 := hx.box.c4
      have c5 := hx.box.c5
      clear hx
      go_upto_region 15 with fail
      obtain ⟨z1, hz1⟩ : ∃ z, z = UInt8.ofNat p.quantum.toNat := ⟨_, rfl⟩
      obtain ⟨z2, hz2⟩ : ∃ z, z = UInt8.ofNat (wszN p) := ⟨_, rfl⟩
      have hqb := quantum_byte HW.out.head
      have hsb := wsz_byte p
      rw [← hz1] at hqb
      rw [← hz2] at hsb
      have HZ1 := Lib.hid hz1
      have HZ2 := Lib.hid hz2
      clear hz1 hz2
      have hgBb := HENV.out.hg
      have hB4 : Bb + 1 ≤ w4.heap.size := (Array.getElem?_eq_some_iff.1 HBE4.out.one).1
      go_cut [14] (fun s wx => OwnV wx (Bb + 1) s (hdr8 p z1 z2) ∧ Apart s v4 ∧ Beh wx Bb (Bb + 1) v4 (behind0 p) ∧ Below Bb W wx)
      case first =>
        -- [R15
        refine wp_region_noPanic ?_
        refine wp_region_held_drew (S := fun w' => (∀ b o, b < Bb → w'.cell? ⟨b, o, none⟩ = w4.cell? ⟨b, o, none⟩) ∧ Below Bb w4 w') (by kernel_rfl) (sts_mk (Below.refl _ _).drew) (fun hHeld => ?_)
        refine wpAnyH_take (i := 0) (oi := _) (v := ?_) rfl (by kernel_rfl) (by kernel_rfl) (by kernel_rfl) (fun _ _ _ h => h) (Or.inl ⟨by rfl, ?_⟩) (by assumption) ?_
        rotate_left 1
        · intro wS hSw
          try dsimp only at hSw
          go_simp
          try with_reducible rfl
        try simp only [List.getElem_toArray, List.getElem_cons_zero, Act.put, List.setIfInBounds_toArray, List.set_cons_zero, List.set_cons_succ]
        refine wpAnyH_take (i := 2) (oi := _) (v := ?_) rfl (by kernel_rfl) (by kernel_rfl) (by kernel_rfl) (fun _ _ _ h => h) (Or.inl ⟨by rfl, ?_⟩) (by assumption) ?_
        rotate_left 1
        · intro wS hSw
          try dsimp only at hSw
          go_simp
          try with_reducible rfl
        try simp only [List.getElem_toArray, List.getElem_cons_zero, List.getElem_cons_succ, Act.put, List.setIfInBounds_toArray, List.set_cons_zero, List.set_cons_succ]
        refine wpAnyH_take (i := 3) (oi := _) (v := ?_) rfl (by kernel_rfl) (by kernel_rfl) (by kernel_rfl) (fun _ _ _ h => h) (Or.inl ⟨by rfl, ?_⟩) (by assumption) ?_
        rotate_left 1
        · intro wS hSw
          try dsimp only at hSw
          go_simp
          try with_reducible rfl
        try simp only [List.getElem_toArray, List.getElem_cons_zero, List.getElem_cons_succ, Act.put, List.setIfInBounds_toArray, List.set_cons_zero, List.set_cons_succ]
        refine wpAnyH_take (i := 4) (oi := _) (v := ?_) rfl (by kernel_rfl) (by kernel_rfl) (by kernel_rfl) (fun _ _ _ h => h) (Or.inl ⟨by rfl, ?_⟩) (by assumption) ?_
        rotate_left 1
        · intro wS hSw
          try dsimp only at hSw
          go_simp
          try with_reducible rfl
        try simp only [List.getElem_toArray, List.getElem_cons_zero, List.getElem_cons_succ, Act.put, List.setIfInBounds_toArray, List.set_cons_zero, List.set_cons_succ]
        refine wpAnyH_take (i := 5) (oi := _) (v := ?_) rfl (by kernel_rfl) (by kernel_rfl) (by kernel_rfl) (fun _ _ _ h => h) (Or.inl ⟨by rfl, ?_⟩) (by assumption) ?_
        rotate_left 1
        · intro wS hSw
          try dsimp only at hSw
          go_simp
          try with_reducible rfl
        try simp only [List.getElem_toArray, List.getElem_cons_zero, List.getElem_cons_succ, Act.put, List.setIfInBounds_toArray, List.set_cons_zero, List.set_cons_succ]
        refine wpAnyH_take (i := 6) (oi := _) (v := ?_) rfl (by kernel_rfl) (by kernel_rfl) (by kernel_rfl) (fun _ _ _ h => h) (Or.inl ⟨by rfl, ?_⟩) (by assumption) ?_
        rotate_left 1
        · intro wS hSw
          try dsimp only at hSw
          go_simp
          try with_reducible rfl
        try simp only [List.getElem_toArray, List.getElem_cons_zero, List.getElem_cons_succ, Act.put, List.setIfInBounds_toArray, List.set_cons_zero, List.set_cons_succ]
        refine wpAnyH_ready (rs := [1, 7]) (by kernel_rfl) (by simp) ?_
        refine AllReadyH.cons (o := _) rfl (fun K hK => ?_) ?_
        · go_simp
          go_at_call 29
          refine (number_any FA _ fc sc p 4294967291 4 _ (by omega) (by omega)).mono ?_
          rintro e w5 ⟨g5, cp5, rfl, hO5, hb5⟩
          have hstep := hb5.mono (Nat.le_trans (Nat.le_of_succ_le hB4) (Nat.le_refl _))
          rw [numB_length]
          go_wp2_with fail
          refine hK.out _ _ (sts_next hHeld hstep) (fun hHeld2 => ?_)
          clear hK K hHeld
          have hHeld := hHeld2
          clear hHeld2
          try simp only [List.getElem_toArray, List.getElem_cons_zero, List.getElem_cons_succ, Act.put, List.setIfInBounds_toArray, List.set_cons_zero, List.set_cons_succ]
          have hV5 := hO5.toV (numB_length _ _ _)
          have hbeh5 := HBE4.out.keep (Fr.of_below (S := fun _ => False) ((Below.refl _ _).drew.trans hb5 : Below w4.heap.size w4 w5)) (fun h => h) (fun _ _ h => h)
          have hs5 := ((Below.refl _ _).drew.trans hb5 : Below w4.heap.size w4 w5).size
          have hap5 : Apart (.slice (some ⟨g5, 0, none⟩) 4 cp5) v4 := .inr (fun h => by have := (HBE4.out.own.lt g5 h.symm).2; have := hO5.le; simp at this; omega)
          refine wpAnyH_ready (rs := [7]) (by kernel_rfl) (by simp) ?_
          refine AllReadyH.cons (o := _) rfl (fun K hK => ?_) ?_
          · go_simp
            refine hK.out _ _ (sts_alloc (Nat.le_of_succ_le hB4) hHeld) (fun hHeld2 => ?_)
            clear hK K hHeld
            have hHeld := hHeld2
            clear hHeld2
            try simp only [List.getElem_toArray, List.getElem_cons_zero, List.getElem_cons_succ, Act.put, List.setIfInBounds_toArray, List.set_cons_zero, List.set_cons_succ]
            refine wpAnyH_ready (rs := [8]) (by kernel_rfl) (by simp) ?_
            refine AllReadyH.cons (o := _) rfl (fun K hK => ?_) ?_
            · refine step_app _ (by rfl) (.tmp 71) (.tmp 77) (by rfl) (Bb + 1) (.slice (some ⟨g5, 0, none⟩) 4 cp5) (numB p.big 4294967291 4) (by rfl) (OwnV.mono (hV5.alloc _) (by simp; omega)) ⟨w5.heap.size, 0, none⟩ 4 4 [0, 0, z1, z2] (by rfl) (by rfl) (block_cells w5 [bv 0, bv 0, bv z1, bv z2] _) (by rw [numB_length]; simp) (Nat.le_trans hB4 (Nat.le_trans hs5 (by simp))) ?_
              intro v6 w6 hown6 hgrow6 hb6 hloc6
              have hstep := hb6.mono (Nat.le_succ _)
              have hbeh6 := beh_after_app ((hbeh5.keep (Fr.of_below (S := fun _ => False) (below_new w5 _)) (fun h => h) (fun _ _ h => h))) (OwnV.mono (hV5.alloc _) (by simp; omega)) hap5 hgrow6
              have hap6 := apart_app ((ownsRow_below hbeh5.own (below_new w5 _))) hap5 hloc6
              clear hloc6
              refine hK.out _ _ (sts_next hHeld hstep) (fun hHeld2 => ?_)
              clear hK K hHeld
              have hHeld := hHeld2
              clear hHeld2
              try simp only [List.getElem_toArray, List.getElem_cons_zero, List.getElem_cons_succ, Act.put, List.setIfInBounds_toArray, List.set_cons_zero, List.set_cons_succ]
              refine wpAnyH_take (i := 9) (oi := _) (v := ?_) rfl (by kernel_rfl) (by kernel_rfl) (by kernel_rfl) (fun _ _ _ h => h) (Or.inl ⟨by rfl, ?_⟩) (by assumption) ?_
              rotate_left 1
              · intro wS hSw
                try dsimp only at hSw
                go_simp
                try with_reducible rfl
              try simp only [List.getElem_toArray, List.getElem_cons_zero, List.getElem_cons_succ, Act.put, List.setIfInBounds_toArray, List.set_cons_zero, List.set_cons_succ]
              refine wpAnyH_done (by kernel_rfl) ?_ _
              refine NoPanic.normal ?_
              go_wp2_with fail
              go_meet
              exact ⟨hown6, hap6, hbeh6, hb4.trans hHeld.2⟩
            exact AllReadyH.nil
          exact AllReadyH.nil
        refine AllReadyH.cons (o := _) rfl (fun K hK => ?_) ?_
        · go_simp
          refine hK.out _ _ (sts_alloc (Nat.le_of_succ_le hB4) hHeld) (fun hHeld2 => ?_)
          clear hK K hHeld
          have hHeld := hHeld2
          clear hHeld2
          try simp only [List.getElem_toArray, List.getElem_cons_zero, List.getElem_cons_succ, Act.put, List.setIfInBounds_toArray, List.set_cons_zero, List.set_cons_succ]
          refine wpAnyH_ready (rs := [1]) (by kernel_rfl) (by simp) ?_
          refine AllReadyH.cons (o := _) rfl (fun K hK => ?_) ?_
          · go_simp
            go_at_call 29
            refine (number_any FA _ fc sc p 4294967291 4 _ (by omega) (by omega)).mono ?_
            rintro e w5 ⟨g5, cp5, rfl, hO5, hb5⟩
            have hstep := hb5.mono (Nat.le_trans (Nat.le_of_succ_le hB4) (by simp))
            rw [numB_length]
            go_wp2_with fail
            refine hK.out _ _ (sts_next hHeld hstep) (fun hHeld2 => ?_)
            clear hK K hHeld
            have hHeld := hHeld2
            clear hHeld2
            try simp only [List.getElem_toArray, List.getElem_cons_zero, List.getElem_cons_succ, Act.put, List.setIfInBounds_toArray, List.set_cons_zero, List.set_cons_succ]
            have hV5 := hO5.toV (numB_length _ _ _)
            have hbeh5 := HBE4.out.keep (Fr.of_below (S := fun _ => False) (((Below.refl _ _).drew.alloc (Nat.le_refl _) _).trans (hb5.mono (by simp)) : Below w4.heap.size w4 w5)) (fun h => h) (fun _ _ h => h)
            have hs5 := (((Below.refl _ _).drew.alloc (Nat.le_refl _) _).trans (hb5.mono (by simp)) : Below w4.heap.size w4 w5).size
            have hap5 : Apart (.slice (some ⟨g5, 0, none⟩) 4 cp5) v4 := .inr (fun h => by have := (HBE4.out.own.lt g5 h.symm).2; have := hO5.le; simp at this; omega)
            refine wpAnyH_ready (rs := [8]) (by kernel_rfl) (by simp) ?_
            refine AllReadyH.cons (o := _) rfl (fun K hK => ?_) ?_
            · refine step_app _ (by rfl) (.tmp 71) (.tmp 77) (by rfl) (Bb + 1) (.slice (some ⟨g5, 0, none⟩) 4 cp5) (numB p.big 4294967291 4) (by rfl) (hV5.mono (by simp; omega)) ⟨w4.heap.size, 0, none⟩ 4 4 [0, 0, z1, z2] (by rfl) (by rfl) (cells_keep (block_cells w4.drew [bv 0, bv 0, bv z1, bv z2] _) (by simp) hb5) (by rw [numB_length]; simp) (Nat.le_trans hB4 hs5) ?_
              intro v6 w6 hown6 hgrow6 hb6 hloc6
              have hstep := hb6.mono (Nat.le_succ _)
              have hbeh6 := beh_after_app hbeh5 (hV5.mono (by simp; omega)) hap5 hgrow6
              have hap6 := apart_app hbeh5.own hap5 hloc6
              clear hloc6
              refine hK.out _ _ (sts_next hHeld hstep) (fun hHeld2 => ?_)
              clear hK K hHeld
              have hHeld := hHeld2
              clear hHeld2
              try simp only [List.getElem_toArray, List.getElem_cons_zero, List.getElem_cons_succ, Act.put, List.setIfInBounds_toArray, List.set_cons_zero, List.set_cons_succ]
              refine wpAnyH_take (i := 9) (oi := _) (v := ?_) rfl (by kernel_rfl) (by kernel_rfl) (by kernel_rfl) (fun _ _ _ h => h) (Or.inl ⟨by rfl, ?_⟩) (by assumption) ?_
              rotate_left 1
              · intro wS hSw
                try dsimp only at hSw
                go_simp
                try with_reducible rfl
              try simp only [List.getElem_toArray, List.getElem_cons_zero, List.getElem_cons_succ, Act.put, List.setIfInBounds_toArray, List.set_cons_zero, List.set_cons_succ]
              refine wpAnyH_done (by kernel_rfl) ?_ _
              refine NoPanic.normal ?_
              go_wp2_with fail
              go_meet
              exact ⟨hown6, hap6, hbeh6, hb4.trans hHeld.2⟩
            exact AllReadyH.nil
          exact AllReadyH.nil
        exact AllReadyH.nil
        -- R15]
      case rest =>
        obtain ⟨hown5, hap5, hbeh5, hb5⟩ := hcut
        clear HXE c0 c1 c2 c3 c4 c5 HPL hnl hB4 hqb hsb HBE4 hb4
        have hx := HENV.out.keep hb5
        have HXE := Lib.hid hx
        have c0 := hx.box.c0
        have c1 := hx.box.c1
        have c2 := hx.box.c2
        have c3 := hx.box.c3
        have c4 := hx.box.c4
        have c5 := hx.box.c5
        have cn := hx.cn
        have ch := hx.ch
        clear hx
        have HO5 := Lib.hid hown5
        have HBE5 := Lib.hid hbeh5
        have HAP5 := Lib.hid hap5
        have hB5 : Bb + 1 ≤ wc.heap.size := (Array.getElem?_eq_some_iff.1 HBE5.out.one).1
        clear hown5 hbeh5 hap5
        go_wp2_with fail
        refine (word_any FA _ fc sc p p.funcs.length _ (by omega)).mono ?_
        rintro e w6 ⟨g6, cp6, rfl, hO6, hb6⟩
        rw [wordB_length] at *
        have hown6 := ownsRow_below HO5.out hb6
        have hbeh6 := HBE5.out.keep (Fr.of_below (S := fun _ => False) hb6) (fun h => h) (fun _ _ h => h)
        have hbw6 : Below Bb wc w6 := hb6.mono (Nat.le_of_succ_le hB5)
        have d1 := (hbw6.cell (p := ⟨w.heap.size, 1, none⟩) hgBb).trans c1
        have d0 := (hbw6.cell (p := ⟨w.heap.size, 0, none⟩) hgBb).trans c0
        have hb6' := Lib.hid (hb5.trans hbw6)
        have HAPP := fun v7 w7 (h : w6.grownBy w7 u14.ownBlock) (hl : v7.ownBlock = u14.ownBlock ∨ v7.ownBlock = some w6.heap.size) => And.intro (beh_after_app hbeh6 hown6 HAP5.out h) (apart_app (v6 := v7) hbeh6.own HAP5.out hl)
        have HA6 := Lib.hid HAPP
        clear HAPP hbeh6 hb5 hbw6
        go_wp2_with (first | (at_builtin; refine app_bytes _ rfl (.tmp 79) (.tmp 83) rfl (Bb + 1) u14 (hdr8 p z1 z2) rfl hown6 ⟨g6, 0, none⟩ _ cp6 (wordB p p.funcs.length) rfl (wordB_length _ _).symm hO6.cells (by rw [wordB_length]; simp [hdr8, numB_length]; omega) (Nat.le_trans hB5 hb6.size) ?_; intro v7 w7 hown7 hgrow7 hb7 hloc7; have hA7 := HA6.out _ _ hgrow7 hloc7; have hb7' := hb6'.out.trans (hb7.mono (Nat.le_succ _)); have e0 := (hb7.cell (p := ⟨w.heap.size, 0, none⟩) (Nat.lt_succ_of_lt hgBb)).trans d0; have e1 := (hb7.cell (p := ⟨w.heap.size, 1, none⟩) (Nat.lt_succ_of_lt hgBb)).trans d1; clear hloc7))
        have HR2 : R2 p W w7 Bb 0 v7 (.slice none 0 0) v4 (hdr8 p z1 z2 ++ wordB p p.funcs.length) [] [] := by
          have hz : hdr8 p z1 z2 ++ wordB p p.funcs.length = hdrB p := by rw [HZ1.out, HZ2.out]; rfl
          refine ⟨⟨hown7, World.ownsRow_nil _ _ _ _, ?_, hA7.2, .inl rfl, Apart.symm (.inl rfl)⟩, rfl, ?_, ?_, hb7'⟩
          · rw [List.append_nil]; exact hA7.1
          · rw [hz]; simp [bndN, frmN]
          · simp [bndN, frmN]
        clear c0 c1 c2 c3 c4 c5 cn ch d0 d1 hown6 hO6 hb6 hb6' HA6 hgrow7 hA7 hown7 HZ1 HZ2 HO5 HBE5 HAP5 HXE e0 e1 hb7 hb7' hB5 HBEH HSW hst
        have hbn0 : (p.start : Int) = (bndN p 0 : Int) := by simp [bndN, frmN]
        have HBN0 := Lib.hid hbn0
        have HR2' := Lib.hid HR2
        clear hbn0 HR2
        have HFN := Lib.hid (HH.out.fn.keep (HBW.out.mono HH.out.bd))
        go_loopw [13, 14, 15, 90] (fun rv ov la i wr => Rel2 p W Bb rv ov la i wr) (fun _ _ _ i _ => p.funcs.length - (intOf i).toNat)
        case atStart => exact ⟨0, _, _, _, _, Nat.zero_le _, rfl, by rw [← HBN0.out], HR2'.out⟩
        case round =>
          obtain ⟨k, os, rs, ys, v, hk, rfl, rfl, hr2⟩ := hrel
          have HR := Lib.hid hr2
          clear hr2
          by_cases hlt : k < p.funcs.length
          · have hx := HENV.out.keep HR.out.bel
            have HXE := Lib.hid hx
            have c0 := hx.box.c0
            have c1 := hx.box.c1
            have c2 := hx.box.c2
            have c3 := hx.box.c3
            have c4 := hx.box.c4
            have c5 := hx.box.c5
            have cn := hx.cn
            have ch := hx.ch
            have hB := HR.out.own.lt
            have hgw : w.heap.size < wr.heap.size := by omega
            obtain ⟨b, off, rfl, hf⟩ := (HFN.out.keep (HR.out.bel.mono hBb)) k hlt
            have q0 := hf.name
            have q1 := hf.frame
            obtain ⟨LA, lc, q2, r2⟩ := hf.lines
            obtain ⟨QA, qc, q3, r3⟩ := hf.files
            have q4 := hf.free
            have HFG := Lib.hid (HW.out.funcs k hlt)
            have hle := HR.out.le HW.out hlt
            have HNX := Lib.hid (fun w' ov' rv' v' h hb => R2.next (w' := w') (ov' := ov') (rv' := rv') (v' := v') HR.out hlt h hb)
            have HBD := Lib.hid (bndW_eq HW.out k hk)
            have HBD1 := Lib.hid (bndW_eq HW.out (k + 1) hlt)
            have hbl := HW.out.bnd_le k hk
            have hbl1 := HW.out.bnd_le (k + 1) hlt
            have HR2 := Lib.hid r2
            have HR3 := Lib.hid r3
            have HOWN := Lib.hid HR.out.own
            have hbel := HR.out.bel
            have hhd := HW.out.parts_le.1
            have hw8 : wszN p ≤ 8 := by rcases wszN_or p with h | h <;> omega
            obtain ⟨RA, rc, hrv⟩ := own_shape HR.out.own.r
            subst hrv
            clear hx hf r2 r3
            generalize p.funcs[k] = f at *
            generalize hqs : behind0 p ++ ys = zs at *
            have HQS := Lib.hid hqs
            clear hqs
            go_wp2_with fail
            have hbf : Below wr.heap.size wr (wr.alloc (.cells #[.string f.name, .int .i32 f.frame, .slice LA f.lines.length lc, .slice QA f.files.length qc, .int .u32 f.free] 41)) := below_new wr _
            have hsf : (wr.alloc (.cells #[.string f.name, .int .i32 f.frame, .slice LA f.lines.length lc, .slice QA f.files.length qc, .int .u32 f.free] 41)).heap.size = wr.heap.size + 1 := by simp
            refine (bounds_any _ SA fc sc p k B _ (HH.out.keep (((HBW.out.mono HH.out.bd).trans (hbel.mono hBb)).trans (hbf.mono (Nat.le_trans hBb (Nat.le_of_succ_le hB))))) hlt).mono ?_
            rintro e w2 ⟨rfl, hb2⟩
            have hbr2 : Below wr.heap.size wr w2 := hbf.trans (hb2.mono (by rw [hsf]; omega))
            rw [HBD.out, HBD1.out]
            have hs2 : wr.heap.size < w2.heap.size := by have := hb2.size; rw [hsf] at this; omega
            have HF2 := Lib.hid (box_new (heap_alloc_new wr (.cells #[.string f.name, .int .i32 f.frame, .slice LA f.lines.length lc, .slice QA f.files.length qc, .int .u32 f.free] 41)) hb2)
            have HO2 := Lib.hid (HOWN.out.keep hbr2)
            have hbW2 : Below Bb W w2 := hbel.trans (hbr2.mono (Nat.le_of_succ_le hB))
            clear hb2 hbf hsf HXE c0 c1 c2 c3 c4 c5 cn ch q0 q1 q2 q3 q4
            have hx := HENV.out.keep hbW2
            have c0 := hx.box.c0
            have c1 := hx.box.c1
            have c2 := hx.box.c2
            have c3 := hx.box.c3
            have c4 := hx.box.c4
            have c5 := hx.box.c5
            clear hx
            go_wp2_with fail
            refine (word_any _ SA fc sc p (bndN p k) _ (by omega)).mono ?_
            rintro e w3 ⟨g3, cp3, rfl, hO3, hb3⟩
            rw [wordB_length]
            have ho3 := HO2.out.keep hb3
            have hw3 : Below Bb W w3 := hbW2.trans (hb3.mono (Nat.le_of_succ_le HO2.out.lt))
            have HP3 := Lib.hid (And.intro ho3 hw3)
            have hown3 := ho3.o
            have hlt3 := ho3.lt
            clear ho3 hw3
            go_wp2_with (first | (at_builtin; refine app_bytes _ rfl (.tmp 101) (.tmp 104) rfl (Bb + 1) u14 os rfl hown3 ⟨g3, 0, none⟩ _ cp3 (wordB p (bndN p k)) rfl (wordB_length _ _).symm hO3.cells (by rw [wordB_length]; omega) hlt3 ?_; intro ov4 w4 howna hgrow hba hloc; have HO4 := Lib.hid (HP3.out.1.appO howna hgrow hloc); have hbWw4 := HP3.out.2.trans (hba.mono (Nat.le_succ _)); obtain ⟨c0, c1, c2, c3, c4, c5, ch⟩ := (HENV.out.keep hbWw4).cells; have HFRw4 := Lib.hid (Fr.trans (Fr.of_below (S := fun k => some k = u14.ownBlock) hb3) (Fr.of_grown hgrow (fun _ h => h.symm))); clear hgrow hloc hba howna))
            clear hown3 hO3 hb3
            go_wp2_with fail
            have hcast : (headN p : Int) + (rs.length : Int) = ((headN p + rs.length : Nat) : Int) := by push_cast; rfl
            rw [hcast]
            clear hcast
            refine (word_any _ SA fc sc p (headN p + rs.length) _ (by omega)).mono ?_
            rintro e w5 ⟨g5, cp5, rfl, hO5, hb5⟩
            rw [wordB_length]
            have ho5 := HO4.out.keep hb5
            have hw5 : Below Bb W w5 := hbWw4.trans (hb5.mono (Nat.le_of_succ_le HO4.out.lt))
            have HP5 := Lib.hid (And.intro ho5 hw5)
            have hown5 := ho5.o
            have hlt5 := ho5.lt
            clear ho5 hw5
            go_wp2_with (first | (at_builtin; refine app_bytes _ rfl (.tmp 106) (.tmp 113) rfl (Bb + 1) ov4 (os ++ wordB p (bndN p k)) rfl hown5 ⟨g5, 0, none⟩ _ cp5 (wordB p (headN p + rs.length)) rfl (wordB_length _ _).symm hO5.cells (by rw [wordB_length]; simp only [List.length_append, wordB_length]; omega) hlt5 ?_; intro ov6 w6 howna hgrow hba hloc; have HO6 := Lib.hid (HP5.out.1.appO howna hgrow hloc); have hbWw6 := HP5.out.2.trans (hba.mono (Nat.le_succ _)); obtain ⟨c0, c1, c2, c3, c4, c5, ch⟩ := (HENV.out.keep hbWw6).cells; have HFRw6 := Lib.hid (Fr.trans (Fr.of_below (S := fun k => some k = ov4.ownBlock) hb5) (Fr.of_grown hgrow (fun _ h => h.symm))); clear hgrow hloc hba howna))
            clear hown5 hO5 hb5
            go_wp2_with fail
            refine (word_any _ SA fc sc p (bndN p k) _ (by omega)).mono ?_
            rintro e w7b ⟨g7, cp7, rfl, hO7, hb7⟩
            rw [wordB_length]
            have ho7 := HO6.out.keep hb7
            have hw7 : Below Bb W w7b := hbWw6.trans (hb7.mono (Nat.le_of_succ_le HO6.out.lt))
            have HP7 := Lib.hid (And.intro ho7 hw7)
            have hown7 := ho7.r
            have hlt7 := ho7.lt
            clear ho7 hw7
            go_wp2_with (first | (at_builtin; refine app_bytes _ rfl (.tmp 116) (.tmp 119) rfl (Bb + 1) (Value.slice RA rs.length rc) rs rfl hown7 ⟨g7, 0, none⟩ _ cp7 (wordB p (bndN p k)) rfl (wordB_length _ _).symm hO7.cells (by rw [wordB_length]; omega) hlt7 ?_; intro rv8 w8 howna hgrow hba hloc; have HO8 := Lib.hid (HP7.out.1.appR howna hgrow hloc); have hbWw8 := HP7.out.2.trans (hba.mono (Nat.le_succ _)); obtain ⟨c0, c1, c2, c3, c4, c5, ch⟩ := (HENV.out.keep hbWw8).cells; have HFRw8 := Lib.hid (Fr.trans (Fr.of_below (S := fun k => some k = (Value.slice RA rs.length rc).ownBlock) hb7) (Fr.of_grown hgrow (fun _ h => h.symm))); clear hgrow hloc hba howna))
            clear hown7 hO7 hb7
            have hf8 := box_app (box_app (box_app HF2.out (by decide) HO2.out.o HFRw4.out) (by decide) HO4.out.o HFRw6.out) (by decide) HO6.out.r HFRw8.out
            have HF8 := Lib.hid hf8
            have k0 := cell_of_row _ _ 0 _ _ _ hf8
            have k1 := cell_of_row _ _ 1 _ _ _ hf8
            have k2 := cell_of_row _ _ 2 _ _ _ hf8
            have k3 := cell_of_row _ _ 3 _ _ _ hf8
            simp only [List.getElem?_toArray, List.getElem?_cons_zero, List.getElem?_cons_succ] at k0 k1 k2 k3
            have hB8 := HO8.out.lt
            have hfbB : wr.heap.size ≠ Bb := by omega
            have hfb8 : wr.heap.size < w8.heap.size := (Array.getElem?_eq_some_iff.1 hf8).1
            clear hf8 HF2 HO2 HO4 HO6 HFRw4 HFRw6 HFRw8 HP3 HP5 HP7 hlt3 hlt5 hlt7 c0 c1 c2 c3 c4 c5 ch hbWw4 hbWw6 hbW2 hs2 hbr2
            have hcv := fun w' => Lib.run_convert_string_bytes (P := Try.prog) w' 9 31 5 f.name Try.underlying9 Try.underlying31 Try.underlying5
            have hbsz := fun w' => Lib.bytesWorld_size w' 5 f.name
            have HA := Lib.hid (order_tz w8.drew f.name 5)
            have HZ := Lib.hid (order_zt w8.drew f.name 5)
            have hfs : f.name.size ≤ 1000 := HFG.out.name.le
            obtain ⟨q, hq⟩ : ∃ q, p.funcs.length * recN p = q := ⟨_, rfl⟩
            obtain ⟨N1, hN1⟩ : ∃ N, headN p + q + zs.length = N := ⟨_, rfl⟩
            have hN1b : baseN p + zs.length = N1 := by rw [← hN1, ← hq]; rfl
            have hhq : headN p + q ≤ 5700 := by have := HW.out.parts_le.2.2.1; unfold baseN at this; omega
            have hlz : (strZ f.name).length + (pairsB f.files).length + (pairsB f.lines).length = (fnBehind f).length := by simp only [fnBehind, List.length_append]; omega
            have hlz2 : zs.length + ((strZ f.name).length + (pairsB f.files).length + (pairsB f.lines).length) ≤ 401000 := by rw [hlz]; exact hle.2.2
            obtain ⟨N2, hN2⟩ : ∃ N, headN p + q + (zs ++ strZ f.name).length = N := ⟨_, rfl⟩
            obtain ⟨N3, hN3⟩ : ∃ N, headN p + q + (zs ++ strZ f.name ++ pairsB f.files).length = N := ⟨_, rfl⟩
            have hN2' : N2 = N1 + (strZ f.name).length := by rw [← hN2, ← hN1, List.length_append]; omega
            have hN3' : N3 = N1 + (strZ f.name).length + (pairsB f.files).length := by rw [← hN3, ← hN1, List.length_append, List.length_append]; omega
            have hNb : N1 ≤ 410000 ∧ N2 ≤ 410000 ∧ N3 ≤ 410000 := by omega
            have hfr0 := HFG.out.fr0
            have hfr1 := HFG.out.fr1
            obtain ⟨fr, hfr⟩ : ∃ fr : Nat, f.frame = (fr : Int) := ⟨f.frame.toNat, by omega⟩
            have hfrw : IntKind.u32.wrap f.frame = (fr : Int) := by rw [hfr, IntKind.wrap_u32]; omega
            have HNUM : Hid (recNums N1 f = [N1, 0, fr, 0, N2, N3, 0, 0]) := by
              refine Lib.hid ?_
              unfold recNums
              rw [hN2', hN3', hfr]
              rfl
            have hfr6 : fr ≤ 65536 := by omega
            have HQ := Lib.hid hq
            have HN1 := Lib.hid hN1
            have HN2 := Lib.hid hN2
            have HN3 := Lib.hid hN3
            have HN1B := Lib.hid hN1b
            obtain ⟨hNb1, hNb2, hNb3⟩ := hNb
            clear hq hN1 hN2 hN3 hN1b hN2' hN3' hfr0 hfr1 hfr hlz
            go_cut [141, 142, 143] (fun s n i wx => ∃ v' X, s = .slice (some ⟨X, 0, none⟩) 8 8 ∧ n = .int .i64 8 ∧ i = .int .i64 0 ∧ Own3 wx Bb ov6 rv8 v' (os ++ wordB p (bndN p k) ++ wordB p (headN p + rs.length)) (rs ++ wordB p (bndN p k)) (zs ++ strZ f.name ++ pairsB f.files ++ pairsB f.lines) ∧
              wx.heap[X]? = some (.cells #[.int .u32 N1, .int .u32 0, .int .u32 fr, .int .u32 0, .int .u32 N2, .int .u32 N3, .int .u32 0, .int .u32 0] 39 (0, 0)) ∧ Below Bb W wx)
            case first =>
              -- [R26
              have hbWx : Below Bb wr w8 := ⟨(hbWw8.os).trans hbel.os.symm, (hbWw8.tape).trans hbel.tape.symm, (hbWw8.output).trans hbel.output.symm, Nat.le_of_lt hfb8, fun k hk => (hbWw8.block k hk).trans (hbel.block k hk).symm⟩
              refine wp_region_noPanic ?_
              refine wp_region_held_drew (S := fun w' => (∀ o, w'.cell? ⟨wr.heap.size, o, none⟩ = w8.cell? ⟨wr.heap.size, o, none⟩) ∧ Below Bb w8 w') (by kernel_rfl) (s26_mk HF8.out HF8.out (Below.refl _ _).drew) (fun hHeld => ?_)
              refine wpAnyH_take (i := 0) (oi := _) (v := ?_) rfl (by kernel_rfl) (by kernel_rfl) (by kernel_rfl) (fun _ _ _ h => h) (Or.inl ⟨by rfl, ?_⟩) (by assumption) ?_
              rotate_left 1
              · intro wS hSw
                try dsimp only at hSw
                go_simp
                try with_reducible rfl
              try simp only [List.getElem_toArray, List.getElem_cons_zero, Act.put, List.setIfInBounds_toArray, List.set_cons_zero, List.set_cons_succ]
              refine wpAnyH_take (i := 1) (oi := _) (v := ?_) rfl (by kernel_rfl) (by kernel_rfl) (by kernel_rfl) (fun _ _ _ h => h) (Or.inl ⟨by rfl, ?_⟩) (by assumption) ?_
              rotate_left 1
              · intro wS hSw
                try dsimp only at hSw
                go_simp
                try with_reducible rfl
              try simp only [List.getElem_toArray, List.getElem_cons_zero, List.getElem_cons_succ, Act.put, List.setIfInBounds_toArray, List.set_cons_zero, List.set_cons_succ]
              refine wpAnyH_take (i := 2) (oi := _) (v := ?_) rfl (by kernel_rfl) (by kernel_rfl) (by kernel_rfl) (fun _ _ _ h => h) (Or.inl ⟨by rfl, ?_⟩) (by assumption) ?_
              rotate_left 1
              · intro wS hSw
                try dsimp only at hSw
                go_simp
                try with_reducible rfl
              try simp only [List.getElem_toArray, List.getElem_cons_zero, List.getElem_cons_succ, Act.put, List.setIfInBounds_toArray, List.set_cons_zero, List.set_cons_succ]
              refine wpAnyH_take (i := 7) (oi := _) (v := ?_) rfl (by kernel_rfl) (by kernel_rfl) (by kernel_rfl) (fun _ _ _ h => h) (Or.inl ⟨by rfl, ?_⟩) (by assumption) ?_
              rotate_left 1
              · intro wS hSw
                try dsimp only at hSw
                go_simp
                try with_reducible rfl
              try simp only [List.getElem_toArray, List.getElem_cons_zero, List.getElem_cons_succ, Act.put, List.setIfInBounds_toArray, List.set_cons_zero, List.set_cons_succ]
              refine wpAnyH_take (i := 8) (oi := _) (v := ?_) rfl (by kernel_rfl) (by kernel_rfl) (by kernel_rfl) (fun _ _ _ h => h) (Or.inl ⟨by rfl, ?_⟩) (by assumption) ?_
              rotate_left 1
              · intro wS hSw
                try dsimp only at hSw
                go_simp
                try with_reducible rfl
              try simp only [List.getElem_toArray, List.getElem_cons_zero, List.getElem_cons_succ, Act.put, List.setIfInBounds_toArray, List.set_cons_zero, List.set_cons_succ]
              refine wpAnyH_take (i := 9) (oi := _) (v := ?_) rfl (by kernel_rfl) (by kernel_rfl) (by kernel_rfl) (fun _ _ _ h => h) (Or.inl ⟨by rfl, ?_⟩) (by assumption) ?_
              rotate_left 1
              · intro wS hSw
                try dsimp only at hSw
                go_simp
                try with_reducible rfl
              try simp only [List.getElem_toArray, List.getElem_cons_zero, List.getElem_cons_succ, Act.put, List.setIfInBounds_toArray, List.set_cons_zero, List.set_cons_succ]
              refine wpAnyH_take (i := 10) (oi := _) (v := ?_) rfl (by kernel_rfl) (by kernel_rfl) (by kernel_rfl) (fun _ _ _ h => h) (Or.inl ⟨by rfl, ?_⟩) (by assumption) ?_
              rotate_left 1
              · intro wS hSw
                try dsimp only at hSw
                go_simp
                try with_reducible rfl
              try simp only [List.getElem_toArray, List.getElem_cons_zero, List.getElem_cons_succ, Act.put, List.setIfInBounds_toArray, List.set_cons_zero, List.set_cons_succ]
              refine wpAnyH_take (i := 11) (oi := _) (v := ?_) rfl (by kernel_rfl) (by kernel_rfl) (by kernel_rfl) (fun _ _ _ h => h) (Or.inl ⟨by rfl, ?_⟩) (by assumption) ?_
              rotate_left 1
              · intro wS hSw
                try dsimp only at hSw
                go_simp
                try with_reducible rfl
              try simp only [List.getElem_toArray, List.getElem_cons_zero, List.getElem_cons_succ, Act.put, List.setIfInBounds_toArray, List.set_cons_zero, List.set_cons_succ]
              refine wpAnyH_take (i := 12) (oi := _) (v := ?_) rfl (by kernel_rfl) (by kernel_rfl) (by kernel_rfl) (fun _ _ _ h => h) (Or.inl ⟨by rfl, ?_⟩) (by assumption) ?_
              rotate_left 1
              · intro wS hSw
                try dsimp only at hSw
                go_simp
                try with_reducible rfl
              try simp only [List.getElem_toArray, List.getElem_cons_zero, List.getElem_cons_succ, Act.put, List.setIfInBounds_toArray, List.set_cons_zero, List.set_cons_succ]
              refine wpAnyH_take (i := 15) (oi := _) (v := ?_) rfl (by kernel_rfl) (by kernel_rfl) (by kernel_rfl) (fun _ _ _ h => h) (Or.inl ⟨by rfl, ?_⟩) (by assumption) ?_
              rotate_left 1
              · intro wS hSw
                try dsimp only at hSw
                go_simp
                try with_reducible rfl
              try simp only [List.getElem_toArray, List.getElem_cons_zero, List.getElem_cons_succ, Act.put, List.setIfInBounds_toArray, List.set_cons_zero, List.set_cons_succ]
              refine wpAnyH_take (i := 16) (oi := _) (v := ?_) rfl (by kernel_rfl) (by kernel_rfl) (by kernel_rfl) (fun _ _ _ h => h) (Or.inl ⟨by rfl, ?_⟩) (by assumption) ?_
              rotate_left 1
              · intro wS hSw
                try dsimp only at hSw
                go_simp
                try with_reducible rfl
              try simp only [List.getElem_toArray, List.getElem_cons_zero, List.getElem_cons_succ, Act.put, List.setIfInBounds_toArray, List.set_cons_zero, List.set_cons_succ]
              refine wpAnyH_take (i := 17) (oi := _) (v := ?_) rfl (by kernel_rfl) (by kernel_rfl) (by kernel_rfl) (fun _ _ _ h => h) (Or.inl ⟨by rfl, ?_⟩) (by assumption) ?_
              rotate_left 1
              · intro wS hSw
                try dsimp only at hSw
                go_simp
                try with_reducible rfl
              try simp only [List.getElem_toArray, List.getElem_cons_zero, List.getElem_cons_succ, Act.put, List.setIfInBounds_toArray, List.set_cons_zero, List.set_cons_succ]
              refine wpAnyH_take (i := 22) (oi := _) (v := ?_) rfl (by kernel_rfl) (by kernel_rfl) (by kernel_rfl) (fun _ _ _ h => h) (Or.inl ⟨by rfl, ?_⟩) (by assumption) ?_
              rotate_left 1
              · intro wS hSw
                try dsimp only at hSw
                go_simp
                try with_reducible rfl
              try simp only [List.getElem_toArray, List.getElem_cons_zero, List.getElem_cons_succ, Act.put, List.setIfInBounds_toArray, List.set_cons_zero, List.set_cons_succ]
              refine wpAnyH_ready (rs := [3, 4]) (by kernel_rfl) (by simp) ?_
              refine AllReadyH.cons (o := _) rfl (fun K hK => ?_) ?_
              · go_simp
                refine hK.out _ _ (s26_mk HF8.out (box_new HF8.out ((Below.refl _ _).drew.trans (below_bytes w8.drew _ f.name) : Below w8.heap.size w8 _)) (((Below.refl _ _).drew.trans (below_bytes w8.drew _ f.name) : Below w8.heap.size w8 _).mono (Nat.le_of_succ_le hB8))) (fun hHeld2 => ?_)
                clear hK K hHeld
                have hHeld := hHeld2
                clear hHeld2
                try simp only [List.getElem_toArray, List.getElem_cons_zero, List.getElem_cons_succ, Act.put, List.setIfInBounds_toArray, List.set_cons_zero, List.set_cons_succ]
                refine wpAnyH_ready (rs := [4]) (by kernel_rfl) (by simp) ?_
                refine AllReadyH.cons (o := _) rfl (fun K hK => ?_) ?_
                · go_simp
                  refine hK.out _ _ (s26_mk HF8.out (box_new HF8.out (((Below.refl _ _).drew.trans (below_bytes w8.drew _ f.name) : Below w8.heap.size w8 _).trans ((below_new _ _).mono (by rw [hbsz]; exact Nat.le_succ _)) : Below w8.heap.size w8 _)) ((((Below.refl _ _).drew.trans (below_bytes w8.drew _ f.name) : Below w8.heap.size w8 _).trans ((below_new _ _).mono (by rw [hbsz]; exact Nat.le_succ _)) : Below w8.heap.size w8 _).mono (Nat.le_of_succ_le hB8))) (fun hHeld2 => ?_)
                  clear hK K hHeld
                  have hHeld := hHeld2
                  clear hHeld2
                  try simp only [List.getElem_toArray, List.getElem_cons_zero, List.getElem_cons_succ, Act.put, List.setIfInBounds_toArray, List.set_cons_zero, List.set_cons_succ]
                  refine wpAnyH_ready (rs := [5]) (by kernel_rfl) (by simp) ?_
                  refine AllReadyH.cons (o := _) rfl (fun K hK => ?_) ?_
                  · refine step_strz _ (by rfl) _ _ (by rfl) w8.heap.size (w8.heap.size + 1) f.name _ _ (by rfl) (by rfl) HA.out.1 (bytesCells_size _ _ _) (bytesCells_pre _ _ _) HA.out.2.1 (by omega) ?_
                    intro gz capz w9 hcz hfz
                    have hpre : Below w8.heap.size w8 w9 := ((Below.refl _ _).drew.trans (HA.out.2.2)).trans (hfz.below (B := w8.heap.size) (Nat.le_trans (Nat.le_refl _) HA.out.2.2.size) (by intro k hk e; omega))
                    have hfb9 := box_new HF8.out hpre
                    have own9 := HO8.out.keep hpre
                    have bel9 := hpre.mono (Nat.le_of_succ_le hB8)
                    clear hfz
                    refine hK.out _ _ (s26_mk HF8.out hfb9 bel9) (fun hHeld2 => ?_)
                    clear hK K hHeld
                    have hHeld := hHeld2
                    clear hHeld2
                    try simp only [List.getElem_toArray, List.getElem_cons_zero, List.getElem_cons_succ, Act.put, List.setIfInBounds_toArray, List.set_cons_zero, List.set_cons_succ]
                    refine wpAnyH_ready (rs := [6]) (by kernel_rfl) (by simp) ?_
                    refine AllReadyH.cons (o := _) rfl (fun K hK => ?_) ?_
                    · go_simp
                      go_at_call 28
                      refine (put_any Bh Bn Br Bb (headN p) p.funcs.length (recN p) q N1 v (zs) (strZ f.name) ⟨gz, 0, none⟩ _ _ (Bb + 1) _ (HENV.out.keep (hbWw8.trans bel9)).ch (HENV.out.keep (hbWw8.trans bel9)).cn (HENV.out.keep (hbWw8.trans bel9)).cr own9.b hcz ((strZ_length f.name).symm) (by omega) own9.lt HQ.out (by omega) HN1.out).mono ?_
                      rintro e w10 ⟨rfl, v10, hbehx, hlocx, hfrx⟩
                      have bel10 := bel9.trans (own9.put_below hfrx)
                      have hfb10 := box_put hfb9 (by decide) hfbB own9.b.own hfrx
                      have own10 := own9.put hbehx hlocx hfrx
                      clear hbehx hlocx hfrx
                      go_wp2_with fail
                      refine hK.out _ _ (s26_mk HF8.out hfb10 bel10) (fun hHeld2 => ?_)
                      clear hK K hHeld
                      have hHeld := hHeld2
                      clear hHeld2
                      try simp only [List.getElem_toArray, List.getElem_cons_zero, List.getElem_cons_succ, Act.put, List.setIfInBounds_toArray, List.set_cons_zero, List.set_cons_succ]
                      refine wpAnyH_ready (rs := [13]) (by kernel_rfl) (by simp) ?_
                      refine AllReadyH.cons (o := _) rfl (fun K hK => ?_) ?_
                      · go_simp
                        go_at_call 30
                        refine (pairs_any QA qc f.files p.files.length B _ (HR3.out.keep ((hbWx.trans bel10).mono hBb)) (Nat.le_trans hBb (Nat.le_of_succ_le own10.lt)) HFG.out.files (by omega)).mono ?_
                        rintro e w11 ⟨g11, cpg11, rfl, hOg11, hbg11⟩
                        have bel11 := bel10.trans (hbg11.mono (Nat.le_of_succ_le own10.lt))
                        have hfb11 := box_new hfb10 hbg11
                        have own11 := own10.keep hbg11
                        clear hbg11
                        go_wp2_with fail
                        refine hK.out _ _ (s26_mk HF8.out hfb11 bel11) (fun hHeld2 => ?_)
                        clear hK K hHeld
                        have hHeld := hHeld2
                        clear hHeld2
                        try simp only [List.getElem_toArray, List.getElem_cons_zero, List.getElem_cons_succ, Act.put, List.setIfInBounds_toArray, List.set_cons_zero, List.set_cons_succ]
                        refine wpAnyH_ready (rs := [14]) (by kernel_rfl) (by simp) ?_
                        refine AllReadyH.cons (o := _) rfl (fun K hK => ?_) ?_
                        · go_simp
                          go_at_call 28
                          refine (put_any Bh Bn Br Bb (headN p) p.funcs.length (recN p) q N2 v10 (zs ++ strZ f.name) (pairsB f.files) ⟨g11, 0, none⟩ _ _ (Bb + 1) _ (HENV.out.keep (hbWw8.trans bel11)).ch (HENV.out.keep (hbWw8.trans bel11)).cn (HENV.out.keep (hbWw8.trans bel11)).cr own11.b (hOg11.cells) (rfl) (by simp only [List.length_append]; omega) own11.lt HQ.out (by omega) HN2.out).mono ?_
                          rintro e w12 ⟨rfl, v12, hbehx, hlocx, hfrx⟩
                          have bel12 := bel11.trans (own11.put_below hfrx)
                          have hfb12 := box_put hfb11 (by decide) hfbB own11.b.own hfrx
                          have own12 := own11.put hbehx hlocx hfrx
                          clear hbehx hlocx hfrx
                          go_wp2_with fail
                          refine hK.out _ _ (s26_mk HF8.out hfb12 bel12) (fun hHeld2 => ?_)
                          clear hK K hHeld
                          have hHeld := hHeld2
                          clear hHeld2
                          try simp only [List.getElem_toArray, List.getElem_cons_zero, List.getElem_cons_succ, Act.put, List.setIfInBounds_toArray, List.set_cons_zero, List.set_cons_succ]
                          refine wpAnyH_ready (rs := [18]) (by kernel_rfl) (by simp) ?_
                          refine AllReadyH.cons (o := _) rfl (fun K hK => ?_) ?_
                          · go_simp
                            go_at_call 30
                            refine (pairs_any LA lc f.lines 65536 B _ (HR2.out.keep ((hbWx.trans bel12).mono hBb)) (Nat.le_trans hBb (Nat.le_of_succ_le own12.lt)) HFG.out.lines (by omega)).mono ?_
                            rintro e w13 ⟨g13, cpg13, rfl, hOg13, hbg13⟩
                            have bel13 := bel12.trans (hbg13.mono (Nat.le_of_succ_le own12.lt))
                            have hfb13 := box_new hfb12 hbg13
                            have own13 := own12.keep hbg13
                            clear hbg13
                            go_wp2_with fail
                            refine hK.out _ _ (s26_mk HF8.out hfb13 bel13) (fun hHeld2 => ?_)
                            clear hK K hHeld
                            have hHeld := hHeld2
                            clear hHeld2
                            try simp only [List.getElem_toArray, List.getElem_cons_zero, List.getElem_cons_succ, Act.put, List.setIfInBounds_toArray, List.set_cons_zero, List.set_cons_succ]
                            refine wpAnyH_ready (rs := [19]) (by kernel_rfl) (by simp) ?_
                            refine AllReadyH.cons (o := _) rfl (fun K hK => ?_) ?_
                            · go_simp
                              go_at_call 28
                              refine (put_any Bh Bn Br Bb (headN p) p.funcs.length (recN p) q N3 v12 (zs ++ strZ f.name ++ pairsB f.files) (pairsB f.lines) ⟨g13, 0, none⟩ _ _ (Bb + 1) _ (HENV.out.keep (hbWw8.trans bel13)).ch (HENV.out.keep (hbWw8.trans bel13)).cn (HENV.out.keep (hbWw8.trans bel13)).cr own13.b (hOg13.cells) (rfl) (by simp only [List.length_append]; omega) own13.lt HQ.out (by omega) HN3.out).mono ?_
                              rintro e w14 ⟨rfl, v14, hbehx, hlocx, hfrx⟩
                              have bel14 := bel13.trans (own13.put_below hfrx)
                              have hfb14 := box_put hfb13 (by decide) hfbB own13.b.own hfrx
                              have own14 := own13.put hbehx hlocx hfrx
                              clear hbehx hlocx hfrx
                              go_wp2_with fail
                              refine hK.out _ _ (s26_mk HF8.out hfb14 bel14) (fun hHeld2 => ?_)
                              clear hK K hHeld
                              have hHeld := hHeld2
                              clear hHeld2
                              try simp only [List.getElem_toArray, List.getElem_cons_zero, List.getElem_cons_succ, Act.put, List.setIfInBounds_toArray, List.set_cons_zero, List.set_cons_succ]
                              refine wpAnyH_ready (rs := [20]) (by kernel_rfl) (by simp) ?_
                              refine AllReadyH.cons (o := _) rfl (fun K hK => ?_) ?_
                              · go_simp
                                refine hK.out _ _ (s26_mk HF8.out (box_new hfb14 (below_new w14 _)) (bel14.trans ((below_new w14 _).mono (Nat.le_of_succ_le own14.lt)))) (fun hHeld2 => ?_)
                                clear hK K hHeld
                                have hHeld := hHeld2
                                clear hHeld2
                                try simp only [List.getElem_toArray, List.getElem_cons_zero, List.getElem_cons_succ, Act.put, List.setIfInBounds_toArray, List.set_cons_zero, List.set_cons_succ]
                                refine wpAnyH_take (i := 21) (oi := _) (v := ?_) rfl (by kernel_rfl) (by kernel_rfl) (by kernel_rfl) (fun _ _ _ h => h) (Or.inl ⟨by rfl, ?_⟩) (by assumption) ?_
                                rotate_left 1
                                · intro wS hSw
                                  try dsimp only at hSw
                                  go_simp
                                  try with_reducible rfl
                                try simp only [List.getElem_toArray, List.getElem_cons_zero, List.getElem_cons_succ, Act.put, List.setIfInBounds_toArray, List.set_cons_zero, List.set_cons_succ]
                                refine wpAnyH_done (by kernel_rfl) ?_ _
                                refine NoPanic.normal ?_
                                go_wp2_with fail
                                go_meet
                                exact ⟨v14, w14.heap.size, rfl, rfl, rfl, own14.keep (below_new w14 _), heap_alloc_new w14 _, hbWw8.trans (bel14.trans ((below_new w14 _).mono (Nat.le_of_succ_le own14.lt)))⟩
                              exact AllReadyH.nil
                            exact AllReadyH.nil
                          exact AllReadyH.nil
                        exact AllReadyH.nil
                      exact AllReadyH.nil
                    exact AllReadyH.nil
                  exact AllReadyH.nil
                exact AllReadyH.nil
              refine AllReadyH.cons (o := _) rfl (fun K hK => ?_) ?_
              · go_simp
                refine hK.out _ _ (s26_mk HF8.out (box_new HF8.out ((Below.refl _ _).drew.trans (below_new w8.drew _) : Below w8.heap.size w8 _)) (((Below.refl _ _).drew.trans (below_new w8.drew _) : Below w8.heap.size w8 _).mono (Nat.le_of_succ_le hB8))) (fun hHeld2 => ?_)
                clear hK K hHeld
                have hHeld := hHeld2
                clear hHeld2
                try simp only [List.getElem_toArray, List.getElem_cons_zero, List.getElem_cons_succ, Act.put, List.setIfInBounds_toArray, List.set_cons_zero, List.set_cons_succ]
                refine wpAnyH_ready (rs := [3]) (by kernel_rfl) (by simp) ?_
                refine AllReadyH.cons (o := _) rfl (fun K hK => ?_) ?_
                · go_simp
                  refine hK.out _ _ (s26_mk HF8.out (box_new HF8.out (((Below.refl _ _).drew.trans (below_new w8.drew _) : Below w8.heap.size w8 _).trans ((below_bytes _ _ f.name).mono (by simp)) : Below w8.heap.size w8 _)) ((((Below.refl _ _).drew.trans (below_new w8.drew _) : Below w8.heap.size w8 _).trans ((below_bytes _ _ f.name).mono (by simp)) : Below w8.heap.size w8 _).mono (Nat.le_of_succ_le hB8))) (fun hHeld2 => ?_)
                  clear hK K hHeld
                  have hHeld := hHeld2
                  clear hHeld2
                  try simp only [List.getElem_toArray, List.getElem_cons_zero, List.getElem_cons_succ, Act.put, List.setIfInBounds_toArray, List.set_cons_zero, List.set_cons_succ]
                  refine wpAnyH_ready (rs := [5]) (by kernel_rfl) (by simp) ?_
                  refine AllReadyH.cons (o := _) rfl (fun K hK => ?_) ?_
                  · refine step_strz _ (by rfl) _ _ (by rfl) (w8.heap.size + 1) w8.heap.size f.name _ _ (by rfl) (by rfl) HZ.out.1 (bytesCells_size _ _ _) (bytesCells_pre _ _ _) HZ.out.2.1 (by omega) ?_
                    intro gz capz w9 hcz hfz
                    have hpre : Below w8.heap.size w8 w9 := ((Below.refl _ _).drew.trans (HZ.out.2.2)).trans (hfz.below (B := w8.heap.size) (Nat.le_trans (Nat.le_refl _) HZ.out.2.2.size) (by intro k hk e; omega))
                    have hfb9 := box_new HF8.out hpre
                    have own9 := HO8.out.keep hpre
                    have bel9 := hpre.mono (Nat.le_of_succ_le hB8)
                    clear hfz
                    refine hK.out _ _ (s26_mk HF8.out hfb9 bel9) (fun hHeld2 => ?_)
                    clear hK K hHeld
                    have hHeld := hHeld2
                    clear hHeld2
                    try simp only [List.getElem_toArray, List.getElem_cons_zero, List.getElem_cons_succ, Act.put, List.setIfInBounds_toArray, List.set_cons_zero, List.set_cons_succ]
                    refine wpAnyH_ready (rs := [6]) (by kernel_rfl) (by simp) ?_
                    refine AllReadyH.cons (o := _) rfl (fun K hK => ?_) ?_
                    · go_simp
                      go_at_call 28
                      refine (put_any Bh Bn Br Bb (headN p) p.funcs.length (recN p) q N1 v (zs) (strZ f.name) ⟨gz, 0, none⟩ _ _ (Bb + 1) _ (HENV.out.keep (hbWw8.trans bel9)).ch (HENV.out.keep (hbWw8.trans bel9)).cn (HENV.out.keep (hbWw8.trans bel9)).cr own9.b hcz ((strZ_length f.name).symm) (by omega) own9.lt HQ.out (by omega) HN1.out).mono ?_
                      rintro e w10 ⟨rfl, v10, hbehx, hlocx, hfrx⟩
                      have bel10 := bel9.trans (own9.put_below hfrx)
                      have hfb10 := box_put hfb9 (by decide) hfbB own9.b.own hfrx
                      have own10 := own9.put hbehx hlocx hfrx
                      clear hbehx hlocx hfrx
                      go_wp2_with fail
                      refine hK.out _ _ (s26_mk HF8.out hfb10 bel10) (fun hHeld2 => ?_)
                      clear hK K hHeld
                      have hHeld := hHeld2
                      clear hHeld2
                      try simp only [List.getElem_toArray, List.getElem_cons_zero, List.getElem_cons_succ, Act.put, List.setIfInBounds_toArray, List.set_cons_zero, List.set_cons_succ]
                      refine wpAnyH_ready (rs := [13]) (by kernel_rfl) (by simp) ?_
                      refine AllReadyH.cons (o := _) rfl (fun K hK => ?_) ?_
                      · go_simp
                        go_at_call 30
                        refine (pairs_any QA qc f.files p.files.length B _ (HR3.out.keep ((hbWx.trans bel10).mono hBb)) (Nat.le_trans hBb (Nat.le_of_succ_le own10.lt)) HFG.out.files (by omega)).mono ?_
                        rintro e w11 ⟨g11, cpg11, rfl, hOg11, hbg11⟩
                        have bel11 := bel10.trans (hbg11.mono (Nat.le_of_succ_le own10.lt))
                        have hfb11 := box_new hfb10 hbg11
                        have own11 := own10.keep hbg11
                        clear hbg11
                        go_wp2_with fail
                        refine hK.out _ _ (s26_mk HF8.out hfb11 bel11) (fun hHeld2 => ?_)
                        clear hK K hHeld
                        have hHeld := hHeld2
                        clear hHeld2
                        try simp only [List.getElem_toArray, List.getElem_cons_zero, List.getElem_cons_succ, Act.put, List.setIfInBounds_toArray, List.set_cons_zero, List.set_cons_succ]
                        refine wpAnyH_ready (rs := [14]) (by kernel_rfl) (by simp) ?_
                        refine AllReadyH.cons (o := _) rfl (fun K hK => ?_) ?_
                        · go_simp
                          go_at_call 28
                          refine (put_any Bh Bn Br Bb (headN p) p.funcs.length (recN p) q N2 v10 (zs ++ strZ f.name) (pairsB f.files) ⟨g11, 0, none⟩ _ _ (Bb + 1) _ (HENV.out.keep (hbWw8.trans bel11)).ch (HENV.out.keep (hbWw8.trans bel11)).cn (HENV.out.keep (hbWw8.trans bel11)).cr own11.b (hOg11.cells) (rfl) (by simp only [List.length_append]; omega) own11.lt HQ.out (by omega) HN2.out).mono ?_
                          rintro e w12 ⟨rfl, v12, hbehx, hlocx, hfrx⟩
                          have bel12 := bel11.trans (own11.put_below hfrx)
                          have hfb12 := box_put hfb11 (by decide) hfbB own11.b.own hfrx
                          have own12 := own11.put hbehx hlocx hfrx
                          clear hbehx hlocx hfrx
                          go_wp2_with fail
                          refine hK.out _ _ (s26_mk HF8.out hfb12 bel12) (fun hHeld2 => ?_)
                          clear hK K hHeld
                          have hHeld := hHeld2
                          clear hHeld2
                          try simp only [List.getElem_toArray, List.getElem_cons_zero, List.getElem_cons_succ, Act.put, List.setIfInBounds_toArray, List.set_cons_zero, List.set_cons_succ]
                          refine wpAnyH_ready (rs := [18]) (by kernel_rfl) (by simp) ?_
                          refine AllReadyH.cons (o := _) rfl (fun K hK => ?_) ?_
                          · go_simp
                            go_at_call 30
                            refine (pairs_any LA lc f.lines 65536 B _ (HR2.out.keep ((hbWx.trans bel12).mono hBb)) (Nat.le_trans hBb (Nat.le_of_succ_le own12.lt)) HFG.out.lines (by omega)).mono ?_
                            rintro e w13 ⟨g13, cpg13, rfl, hOg13, hbg13⟩
                            have bel13 := bel12.trans (hbg13.mono (Nat.le_of_succ_le own12.lt))
                            have hfb13 := box_new hfb12 hbg13
                            have own13 := own12.keep hbg13
                            clear hbg13
                            go_wp2_with fail
                            refine hK.out _ _ (s26_mk HF8.out hfb13 bel13) (fun hHeld2 => ?_)
                            clear hK K hHeld
                            have hHeld := hHeld2
                            clear hHeld2
                            try simp only [List.getElem_toArray, List.getElem_cons_zero, List.getElem_cons_succ, Act.put, List.setIfInBounds_toArray, List.set_cons_zero, List.set_cons_succ]
                            refine wpAnyH_ready (rs := [19]) (by kernel_rfl) (by simp) ?_
                            refine AllReadyH.cons (o := _) rfl (fun K hK => ?_) ?_
                            · go_simp
                              go_at_call 28
                              refine (put_any Bh Bn Br Bb (headN p) p.funcs.length (recN p) q N3 v12 (zs ++ strZ f.name ++ pairsB f.files) (pairsB f.lines) ⟨g13, 0, none⟩ _ _ (Bb + 1) _ (HENV.out.keep (hbWw8.trans bel13)).ch (HENV.out.keep (hbWw8.trans bel13)).cn (HENV.out.keep (hbWw8.trans bel13)).cr own13.b (hOg13.cells) (rfl) (by simp only [List.length_append]; omega) own13.lt HQ.out (by omega) HN3.out).mono ?_
                              rintro e w14 ⟨rfl, v14, hbehx, hlocx, hfrx⟩
                              have bel14 := bel13.trans (own13.put_below hfrx)
                              have hfb14 := box_put hfb13 (by decide) hfbB own13.b.own hfrx
                              have own14 := own13.put hbehx hlocx hfrx
                              clear hbehx hlocx hfrx
                              go_wp2_with fail
                              refine hK.out _ _ (s26_mk HF8.out hfb14 bel14) (fun hHeld2 => ?_)
                              clear hK K hHeld
                              have hHeld := hHeld2
                              clear hHeld2
                              try simp only [List.getElem_toArray, List.getElem_cons_zero, List.getElem_cons_succ, Act.put, List.setIfInBounds_toArray, List.set_cons_zero, List.set_cons_succ]
                              refine wpAnyH_ready (rs := [20]) (by kernel_rfl) (by simp) ?_
                              refine AllReadyH.cons (o := _) rfl (fun K hK => ?_) ?_
                              · go_simp
                                refine hK.out _ _ (s26_mk HF8.out (box_new hfb14 (below_new w14 _)) (bel14.trans ((below_new w14 _).mono (Nat.le_of_succ_le own14.lt)))) (fun hHeld2 => ?_)
                                clear hK K hHeld
                                have hHeld := hHeld2
                                clear hHeld2
                                try simp only [List.getElem_toArray, List.getElem_cons_zero, List.getElem_cons_succ, Act.put, List.setIfInBounds_toArray, List.set_cons_zero, List.set_cons_succ]
                                refine wpAnyH_take (i := 21) (oi := _) (v := ?_) rfl (by kernel_rfl) (by kernel_rfl) (by kernel_rfl) (fun _ _ _ h => h) (Or.inl ⟨by rfl, ?_⟩) (by assumption) ?_
                                rotate_left 1
                                · intro wS hSw
                                  try dsimp only at hSw
                                  go_simp
                                  try with_reducible rfl
                                try simp only [List.getElem_toArray, List.getElem_cons_zero, List.getElem_cons_succ, Act.put, List.setIfInBounds_toArray, List.set_cons_zero, List.set_cons_succ]
                                refine wpAnyH_done (by kernel_rfl) ?_ _
                                refine NoPanic.normal ?_
                                go_wp2_with fail
                                go_meet
                                exact ⟨v14, w14.heap.size, rfl, rfl, rfl, own14.keep (below_new w14 _), heap_alloc_new w14 _, hbWw8.trans (bel14.trans ((below_new w14 _).mono (Nat.le_of_succ_le own14.lt)))⟩
                              exact AllReadyH.nil
                            exact AllReadyH.nil
                          exact AllReadyH.nil
                        exact AllReadyH.nil
                      exact AllReadyH.nil
                    exact AllReadyH.nil
                  exact AllReadyH.nil
                exact AllReadyH.nil
              exact AllReadyH.nil
              -- R26]
            case rest =>
              obtain ⟨v15, X, rfl, rfl, rfl, hown15, hbX, hb15⟩ := hcut
              have hrec : Hid (rs ++ wordB p (bndN p k) ++ [N1, 0, fr, 0, N2, N3, 0, 0].flatMap (fun x => numB p.big x 4) = rs ++ recB p (bndN p k) (baseN p + zs.length) f) := by
                refine Lib.hid ?_
                rw [HN1B.out, recB, HNUM.out, List.append_assoc]
              have hzz : Hid (zs ++ strZ f.name ++ pairsB f.files ++ pairsB f.lines = zs ++ fnBehind f) := Lib.hid (by simp [fnBehind])
              have hrsl : (rs ++ wordB p (bndN p k)).length ≤ 4000 := by rw [List.length_append, wordB_length]; have := hle.2.1; unfold recN at this; omega
              clear HR HFG HBD HBD1 HR2 HR3 HOWN HF8 k0 k1 k2 k3 HA HZ hcv hbsz HN1 HN2 HN3 HQ hfrw hB8 hfb8 HO8 hbWw8 hfbB hlz2 hhq hfs hgw hB hbel hbl1 HQS
              generalize hnu : [N1, 0, fr, 0, N2, N3, 0, 0] = nums at *
              have hnl : nums.length = 8 := by rw [← hnu]; rfl
              have hnb : ∀ x ∈ nums, x ≤ 1000000 := by
                intro x hx
                rw [← hnu] at hx
                simp only [List.mem_cons, List.not_mem_nil, or_false] at hx
                omega
              have hbX' : wc.heap[X]? = some (.cells (nums.map (fun n : Nat => Value.int .u32 (n : Int))).toArray 39 (0, 0)) := by rw [← hnu]; exact hbX
              have HNL := Lib.hid hnl
              have HNB := Lib.hid hnb
              have HBX' := Lib.hid hbX'
              have HOW := Lib.hid hown15
              have HB15 := Lib.hid hb15
              clear hnl hnb hbX hbX' hnu HNUM hown15 hb15
              obtain ⟨wo, rfl⟩ : ∃ wo : World, wo = wr := ⟨_, rfl⟩
              go_wp2_with fail
              go_loopw [13, 143] (fun rv i wr => ∃ (j : Nat) (rs3 : List UInt8), j ≤ 8 ∧ i = .int .i64 j ∧ Own3 wr Bb ov6 rv v15 (os ++ wordB p (bndN p k) ++ wordB p (headN p + rs.length)) rs3 (zs ++ strZ f.name ++ pairsB f.files ++ pairsB f.lines) ∧
                rs3 ++ (nums.drop j).flatMap (fun x => numB p.big x 4) = rs ++ wordB p (bndN p k) ++ nums.flatMap (fun x => numB p.big x 4) ∧ rs3.length = (rs ++ wordB p (bndN p k)).length + 4 * j ∧
                wr.heap[X]? = some (.cells (nums.map (fun n : Nat => Value.int .u32 (n : Int))).toArray 39 (0, 0)) ∧ Below Bb W wr) (fun _ i _ => 8 - (intOf i).toNat)
              case atStart => exact ⟨0, _, Nat.zero_le _, rfl, HOW.out, rfl, rfl, HBX'.out, HB15.out⟩
              case round =>
                obtain ⟨j, rs3, hj, rfl, hown, hrs3, hl3, hbX, hbW⟩ := hrel
                have HR3 := Lib.hid hrs3
                have HBX := Lib.hid hbX
                have HO := Lib.hid hown
                have HL3 := Lib.hid hl3
                have hl3b : rs3.length ≤ 4000 + 4 * j := by omega
                clear hrs3 hl3 hown
                obtain ⟨c0, c1, c2, c3, c4, c5, ch⟩ := (HENV.out.keep hbW).cells
                by_cases hj8 : j < 8
                · have hjn : j < nums.length := by rw [HNL.out]; exact hj8
                  have hcx := nums_cell hbX j hjn
                  have hxb : nums[j] ≤ 1000000 := HNB.out _ (List.getElem_mem hjn)
                  have HRN : Hid ((rs3 ++ numB p.big nums[j] 4) ++ (nums.drop (j + 1)).flatMap (fun x => numB p.big x 4) = rs ++ wordB p (bndN p k) ++ nums.flatMap (fun x => numB p.big x 4)) := by
                    refine Lib.hid ?_
                    rw [← HR3.out, drop_cons nums j hjn, List.flatMap_cons, List.append_assoc]
                  generalize nums[j] = x at *
                  clear hbX
                  go_wp2_with fail
                  refine (number_any _ SA fc sc p x 4 _ (by omega) (by omega)).mono ?_
                  rintro e w2 ⟨g2, cp2, rfl, hO2, hb2⟩
                  rw [numB_length]
                  have ho2 := HO.out.keep hb2
                  have HP := Lib.hid (And.intro ho2 (And.intro (hbW.trans (hb2.mono (Nat.le_of_succ_le HO.out.lt))) (box_new HBX.out hb2)))
                  have hown2 := ho2.r
                  have hlt2 := ho2.lt
                  clear ho2
                  go_wp2_with (first | (at_builtin; refine app_bytes _ rfl (.tmp 147) (.tmp 151) rfl (Bb + 1) u13 rs3 rfl hown2 ⟨g2, 0, none⟩ _ cp2 (numB p.big x 4) rfl (numB_length _ _ _).symm hO2.cells (by rw [numB_length]; omega) hlt2 ?_; intro rv3 w3 howna hgrow hba hloc; have HO3 := Lib.hid (HP.out.1.appR howna hgrow hloc); have HB3 := Lib.hid (HP.out.2.1.trans (hba.mono (Nat.le_succ _))); have HX3 := Lib.hid (box_app HP.out.2.2 (by decide) hown2 (Fr.of_grown hgrow (fun _ h => h.symm))); clear hgrow hloc hba howna))
                  exact ⟨⟨j + 1, _, by omega, by go_num, HO3.out, HRN.out, by rw [List.length_append, numB_length, HL3.out]; omega, HX3.out, HB3.out⟩, by simp [intOf]; omega⟩
                · obtain rfl : j = 8 := by omega
                  have hre : rs3 = rs ++ recB p (bndN p k) (baseN p + zs.length) f := by
                    have := HR3.out
                    rw [List.drop_eq_nil_of_le (by rw [HNL.out]; exact Nat.le_refl _)] at this
                    simp only [List.flatMap_nil, List.append_nil] at this
                    rw [this]
                    exact hrec.out
                  have hof := HO.out
                  rw [hre, hzz.out] at hof
                  have HOF := Lib.hid (HNX.out _ _ _ _ hof hbW)
                  clear hre hof
                  go_wp2_with fail
                  exact ⟨⟨k + 1, _, _, _, v15, hlt, by go_num, rfl, HOF.out⟩, by simp [intOf]; omega⟩
          · obtain rfl : k = p.funcs.length := by omega
            have hnp := HW.out.head.pos
            have hos : Hid (os ++ wordB p (bndN p p.funcs.length) = hdrB p ++ tabB p p.start (headN p) p.funcs) := by
              have := HR.out.os_
              rw [List.drop_length] at this
              exact this
            have hrs : rs = recsB p p.start (baseN p + (behind0 p).length) p.funcs := by
              have := HR.out.rs_
              rw [List.drop_length] at this
              simpa [recsB] using this
            have hys : ys = behB p.funcs := by
              have := HR.out.ys_
              rw [List.drop_length] at this
              simpa [behB] using this
            subst hrs hys
            have hrl : (recsB p p.start (baseN p + (behind0 p).length) p.funcs).length ≤ 4000 ∧ 0 < (recsB p p.start (baseN p + (behind0 p).length) p.funcs).length := by
              rw [recsB_length]
              have h1 := HW.out.parts_le.2.1
              have h2 : p.funcs.length * recN p ≤ 100 * 40 := Nat.mul_le_mul hfl h1
              have h3 : 0 < p.funcs.length * recN p := Nat.mul_pos hnp (by unfold recN; omega)
              omega
            have hol : os.length + wszN p ≤ 2000 := by
              have h0 := congrArg List.length hos.out
              simp only [List.length_append, wordB_length, hdrB_length, tabB_length] at h0
              have a1 : (2 * p.funcs.length + 1) * wszN p ≤ 201 * 8 := Nat.mul_le_mul (by omega) hs8
              omega
            have hbl : (behind0 p ++ behB p.funcs).length ≤ 401000 ∧ 0 < (behind0 p ++ behB p.funcs).length := by
              have h1 := HW.out.parts_le
              simp only [List.length_append, behind0, numB_length] at h1 ⊢
              omega
            have hfo : filesOff p ≤ 105800 := HW.out.parts_le.2.2.2.2.2.2
            have hbn := HW.out.bnd_le p.funcs.length (Nat.le_refl _)
            obtain ⟨gr, cr, hrv⟩ := HR.out.own.r.slice hrl.2
            obtain ⟨gb, cb, hbv⟩ := HR.out.own.b.own.slice hbl.2
            subst hrv hbv
            obtain ⟨c0, c1, c2, c3, c4, c5, ch⟩ := (HENV.out.keep HR.out.bel).cells
            have hB := HR.out.own.lt
            have HO0 := Lib.hid HR.out.own
            have HB0 := Lib.hid HR.out.bel
            clear HR
            go_wp2_with fail
            refine (word_any _ SA fc sc p (bndN p p.funcs.length) _ (by omega)).mono ?_
            rintro e w2 ⟨g2, cp2, rfl, hO2, hb2⟩
            rw [wordB_length]
            have HP2 := Lib.hid (And.intro (HO0.out.keep hb2) (HB0.out.trans (hb2.mono (Nat.le_of_succ_le hB))))
            have hown2 := HP2.out.1.o
            clear hb2
            go_wp2_with (first | (at_builtin; refine app_bytes _ rfl (.tmp 155) (.tmp 158) rfl (Bb + 1) u14 os rfl hown2 ⟨g2, 0, none⟩ _ cp2 (wordB p (bndN p p.funcs.length)) rfl (wordB_length _ _).symm hO2.cells (by rw [wordB_length]; omega) HP2.out.1.lt ?_; intro ov3 w3 howna hgrow hba hloc; have HOw3 := Lib.hid (HP2.out.1.appO howna hgrow hloc); have HBw3 := Lib.hid (HP2.out.2.trans (hba.mono (Nat.le_succ _))); obtain ⟨c0, c1, c2, c3, c4, c5, ch⟩ := (HENV.out.keep HBw3.out).cells; clear hgrow hloc hba howna))
            refine (number_any _ SA fc sc p (filesOff p) 4 _ (by omega) (by omega)).mono ?_
            rintro e w4 ⟨g4, cp4, rfl, hO4, hb4⟩
            rw [numB_length]
            have HP4 := Lib.hid (And.intro (HOw3.out.keep hb4) (HBw3.out.trans (hb4.mono (Nat.le_of_succ_le HOw3.out.lt))))
            have hown4 := HP4.out.1.o
            clear hb4 hown2
            go_wp2_with (first
              | (at_builtin; refine app_bytes _ rfl (.tmp 160) (.tmp 164) rfl (Bb + 1) ov3 (os ++ wordB p (bndN p p.funcs.length)) rfl hown4 ⟨g4, 0, none⟩ _ cp4 (numB p.big (filesOff p) 4) rfl (numB_length _ _ _).symm hO4.cells (by simp only [List.length_append, wordB_length, numB_length]; omega) HP4.out.1.lt ?_; intro ov5 w5 howna hgrow hba hloc; have HOw5 := Lib.hid (HP4.out.1.appO howna hgrow hloc); have HBw5 := Lib.hid (HP4.out.2.trans (hba.mono (Nat.le_succ _))); have HP5 := Lib.hid (And.intro HOw5.out HBw5.out); clear hgrow hloc hba howna)
              | (at_builtin; refine app_bytes _ rfl (.tmp 166) (.tmp 167) rfl (Bb + 1) ov5 (os ++ wordB p (bndN p p.funcs.length) ++ numB p.big (filesOff p) 4) rfl HP5.out.1.o ⟨gr, 0, none⟩ _ cr (recsB p p.start (baseN p + (behind0 p).length) p.funcs) rfl rfl (HP5.out.1.r.cells rfl) (by simp only [List.length_append, wordB_length, numB_length]; omega) HP5.out.1.lt ?_; intro ov6 w6 howna hgrow hba hloc; have HOw6 := Lib.hid (HP5.out.1.appO howna hgrow hloc); have HBw6 := Lib.hid (HP5.out.2.trans (hba.mono (Nat.le_succ _))); have HP6 := Lib.hid (And.intro HOw6.out HBw6.out); have cb6 := cell_of_one HP6.out.1.b.one; clear hgrow hloc hba howna)
              | (at_builtin; refine app_bytes _ rfl (.tmp 169) (.tmp 170) rfl (Bb + 1) ov6 (os ++ wordB p (bndN p p.funcs.length) ++ numB p.big (filesOff p) 4 ++ recsB p p.start (baseN p + (behind0 p).length) p.funcs) rfl HP6.out.1.o ⟨gb, 0, none⟩ _ cb (behind0 p ++ behB p.funcs) rfl (List.length_append).symm (HP6.out.1.b.own.cells rfl) (by simp only [List.length_append, wordB_length, numB_length] at *; omega) HP6.out.1.lt ?_; intro ov7 w7c howna hgrow hba hloc; have HOw7c := Lib.hid (HP6.out.1.appO howna hgrow hloc); have HBw7c := Lib.hid (HP6.out.2.trans (hba.mono (Nat.le_succ _))); clear hgrow hloc hba howna))
            have hfin : os ++ wordB p (bndN p p.funcs.length) ++ numB p.big (filesOff p) 4 ++ recsB p p.start (baseN p + (behind0 p).length) p.funcs ++ (behind0 p ++ behB p.funcs) = bytesB p := by
              rw [hos.out]
              simp [bytesB]
            have hfo7 := HOw7c.out.o
            rw [hfin] at hfo7
            go_ret
            exact Wrote.mk' (OwnV.mono hfo7 (by omega)) rfl rfl (by have := HW.out.len_le.2; omega) (HBW.out.trans (HBw7c.out.mono (Nat.le_of_lt HENV.out.hg)))
end Go.Proofs.Ytoedlabfiialfaa
