/-
  The walks through funcName, stringFrom and string: a text at a place of the bytes, kept in a map.
-/
import Derived.Test.YtoedlabfiialfaaGreatNlt
import Derived.Lib.BytesEntry
import Derived.Lib.SlBytesRow
namespace Go.Proofs.YtoedlabfiialfaaGreat
open Go.RowKit

/-! ### the text at a place -/
def strAt (d : List UInt8) (off : Nat) : ByteArray := ⟨((d.drop off).takeWhile (· != 0)).toArray⟩
theorem takeWhile_no0 (l : List UInt8) (h : ∀ x ∈ l, x ≠ 0) (r : List UInt8) : (l ++ 0 :: r).takeWhile (· != 0) = l := by
  induction l with
  | nil => simp
  | cons x l ih =>
    have hx : (x != 0) = true := by rw [bne_iff_ne]; exact h x (by simp)
    simp only [List.cons_append, List.takeWhile_cons, hx, if_true]
    rw [ih (fun y hy => h y (by simp [hy]))]
theorem TextOk.list {s : ByteArray} (h : TextOk s) : ∀ x ∈ s.data.toList, x ≠ 0 := by
  intro x hx
  obtain ⟨k, hk, rfl⟩ := List.getElem_of_mem hx
  exact h.no0 k (by simpa using hk)
theorem At.drop {d : List UInt8} {o : Nat} {s : ByteArray} (h : At d o (strZ s)) : ∃ rest, d.drop o = s.data.toList ++ 0 :: rest := by
  obtain ⟨a, b, rfl, rfl⟩ := h
  exact ⟨b, by simp [strZ]⟩
theorem strAt_eq {d : List UInt8} {o : Nat} {s : ByteArray} (h : At d o (strZ s)) (ht : TextOk s) : strAt d o = s := by
  obtain ⟨rest, e⟩ := h.drop
  unfold strAt
  rw [e, takeWhile_no0 _ ht.list]
theorem indexByte_no0 (l : List UInt8) (h : ∀ x ∈ l, x ≠ 0) (r : List UInt8) : Lib.indexByte (l ++ 0 :: r) 0 = l.length := by
  induction l with
  | nil => simp [Lib.indexByte]
  | cons x l ih =>
    have hx : (x == 0) = false := by rw [beq_eq_false_iff_ne]; exact h x (by simp)
    have := ih (fun y hy => h y (by simp [hy]))
    simp only [List.cons_append, Lib.indexByte, hx, this, List.length_cons]
    have hne : ((l.length : Int) == -1) = false := by rw [beq_eq_false_iff_ne]; omega
    rw [hne]
    simp
theorem bytesOf_map (l : List UInt8) : Lib.bytesOf (l.map fun x => (x.toNat : Int)) = l := by
  unfold Lib.bytesOf
  rw [List.map_map]
  have : (fun n : Int => UInt8.ofNat n.toNat) ∘ (fun x : UInt8 => (x.toNat : Int)) = id := by funext x; simp
  rw [this, List.map_id]
set_option maxRecDepth 100000 in
set_option maxHeartbeats 1000000 in
theorem idxByte_any (b o n c : Nat) (s : ByteArray) (rest : List UInt8) (w : World) (hm : Mem w b o (s.data.toList ++ 0 :: rest)) (hn : n = (s.data.toList ++ 0 :: rest).length) (h0 : ∀ x ∈ s.data.toList, x ≠ 0) :
    Calls Tryz.prog 99 #[.slice (some ⟨b, o, none⟩) n c, .int .u8 0] w fun e w' => e = .returned (.int .i64 s.size) ∧ w' = w := by
  have hi := Lib.run_indexByteSlice (P := Tryz.prog) w b o n c ((s.data.toList ++ 0 :: rest).map fun x => (x.toNat : Int)) (by rw [hn]; simp) (fun i hi => by
    rw [hm i (by rw [← hn]; exact hi)]
    have hil : i < (s.data.toList ++ 0 :: rest).length := by rw [← hn]; exact hi
    simp only [List.getD_eq_getElem?_getD, List.getElem?_map, List.getElem?_eq_getElem hil, Option.map_some, Option.getD_some]) 0
  rw [bytesOf_map] at hi
  have hz : (0 : Int).toNat.toUInt8 = 0 := rfl
  rw [hz, indexByte_no0 _ h0] at hi
  have hs : s.data.toList.length = s.size := by simp
  rw [hs] at hi
  have HI := Lib.hid hi
  clear hi hm hn h0
  go_enter Tryz.func99, Tryz.ntmps99
  go_wp2
  rw [run_callFunc_extern Tryz.func110 (by kernel_rfl) (by kernel_rfl) (by kernel_rfl) (e := Extern.BytealgIndexByte.indexByte) (by kernel_rfl), HI.out]
  simp only [Result.andThen]
  rw [Oper.upon_value]
  go_wp2
  go_ret
  exact ⟨rfl, rfl⟩
theorem conv_str {w : World} {b o n c : Nat} {s : ByteArray} (hm : Mem w b o s.data.toList) (hn : n = s.size) : (convert 31 9 (.slice (some ⟨b, o, none⟩) n c)).run Tryz.prog w = .ok (.string s) w := by
  subst hn
  have := Lib.run_convert_window (P := Tryz.prog) w 31 5 9 Tryz.underlying31 Tryz.underlying5 Tryz.underlying9 b o s (fun i hi => by
    have := hm i (by simpa using hi)
    rw [this]
    rfl) 0 s.size c (by omega)
  simpa using this

/-! ### the maps that keep the texts -/
abbrev k32 (k : Nat) : Value := .int .u32 k
theorem K32 : KeyKind Tryz.prog 37 k32 (.int .u32) where
  under := Tryz.underlying37
  same a b := by
    show some ((a : Int) == (b : Int)) = some (decide (a = b))
    congr 1
    by_cases h : a = b
    · subst h; simp
    · rw [decide_eq_false h, beq_eq_false_iff_ne]; omega
  bits a := by
    show (IntKind.u32 == IntKind.u32 && ((a : Int) == (a : Int))) = true
    simp
  check e a w := by
    show Sem.run _ (Instr.checkKey e (9999 + 1) _ _) w = _
    unfold Instr.checkKey
    simp only [Sem.run_bind, run_underlying Tryz.underlying37, Result.andThen_ok, Sem.run_pure]
/-- block b is a map of texts of d by their places -/
def Cache (w : World) (b : Nat) (d : List UInt8) : Prop := ∃ l : List (Nat × Value), MapL k32 w b l ∧ ∀ x ∈ l, x.2 = .string (strAt d x.1)
theorem Cache.fr {S : Nat → Prop} {w w' : World} {b : Nat} {d : List UInt8} (h : Cache w b d) (f : Fr S w w') (hs : ¬ S b) : Cache w' b d := by
  obtain ⟨l, h1, h2⟩ := h
  exact ⟨l, h1.fr f hs, h2⟩
theorem Cache.lt {w : World} {b : Nat} {d : List UInt8} (h : Cache w b d) : b < w.heap.size := by
  obtain ⟨l, h1, h2⟩ := h
  exact h1.lt
theorem zero_str (w : World) : (zeroValue 9).run Tryz.prog w = .ok (.string ⟨#[]⟩) w := by kernel_rfl
theorem Cache.look {w : World} {b : Nat} {d : List UInt8} (h : Cache w b d) (off : Nat) :
    (Instr.lookup 134 (.map (some b)) (.int .u32 off) true).run Tryz.prog w = .ok (.tuple #[.string (strAt d off), .bool true]) w ∨
      (Instr.lookup 134 (.map (some b)) (.int .u32 off) true).run Tryz.prog w = .ok (.tuple #[.string ⟨#[]⟩, .bool false]) w := by
  obtain ⟨l, h1, h2⟩ := h
  have := h1.look K32 Tryz.underlying134 (zero_str w) off
  cases hf : findL off l 0 with
  | none => rw [hf] at this; exact .inr this
  | some r =>
    rw [hf] at this
    obtain ⟨j, v⟩ := r
    obtain ⟨k, hk, _, e, _⟩ := findL_some hf
    have hv := h2 _ (List.getElem_mem hk)
    rw [e] at hv
    simp only at hv
    rw [hv] at this
    exact .inl this
theorem Cache.store {w : World} {b : Nat} {d : List UInt8} (h : Cache w b d) (off : Nat) :
    ∃ w', (Instr.mapUpdate 134 (.map (some b)) (.int .u32 off) (.string (strAt d off))).run Tryz.prog w = .ok () w' ∧ Cache w' b d ∧ Fr (fun k => k = b) w w' := by
  obtain ⟨l, h1, h2⟩ := h
  obtain ⟨w', hr, h3, h4⟩ := h1.store K32 Tryz.underlying134 off (.string (strAt d off))
  refine ⟨w', hr, ⟨_, h3, fun x hx => ?_⟩, h4⟩
  unfold putL at hx
  split at hx
  · rcases List.mem_or_eq_of_mem_set hx with h | h
    · exact h2 x h
    · subst h; rfl
  · rw [List.mem_append, List.mem_singleton] at hx
    rcases hx with h | h
    · exact h2 x h
    · subst h; rfl

/-- the line table once it is read, and its maps -/
structure LtM (w : World) (lt db c b1 b2 : Nat) (lk : Int) (m3 : Value) (p : Pg) : Prop where
  well : WellP p
  row : w.heap[lt]? = some (.cells (rowE db c p lk (.map (some b1)) (.map (some b2)) m3) 137 (0, 0))
  mem : Mem w db 0 (bytesB p)
  hc : (bytesB p).length ≤ c
  cm : c ≤ maxLen
  m1 : Cache w b1 (bytesB p)
  m2 : Cache w b2 (bytesB p)
  ne : lt ≠ db ∧ lt ≠ b1 ∧ lt ≠ b2 ∧ db ≠ b1 ∧ db ≠ b2 ∧ b1 ≠ b2
theorem LtM.ok {w : World} {lt db c b1 b2 : Nat} {lk : Int} {m3 : Value} {p : Pg} (h : LtM w lt db c b1 b2 lk m3 p) : LtOk w lt db c p := LtOk.of_row h.well h.row h.mem h.hc h.cm
theorem LtM.fr {S : Nat → Prop} {w w' : World} {lt db c b1 b2 : Nat} {lk : Int} {m3 : Value} {p : Pg} (h : LtM w lt db c b1 b2 lk m3 p) (f : Fr S w w') (h1 : ¬ S lt) (h2 : ¬ S db) (h3 : ¬ S b1) (h4 : ¬ S b2) : LtM w' lt db c b1 b2 lk m3 p :=
  ⟨h.well, (f.block lt h.ok.lt h1).trans h.row, h.mem.fr f h2, h.hc, h.cm, h.m1.fr f h3, h.m2.fr f h4, h.ne⟩
theorem LtM.keep {w w' : World} {lt db c b1 b2 : Nat} {lk : Int} {m3 : Value} {p : Pg} (h : LtM w lt db c b1 b2 lk m3 p) (f : Below w.heap.size w w') : LtM w' lt db c b1 b2 lk m3 p :=
  h.fr (Fr.of_below (S := fun _ => False) f) (fun e => e) (fun e => e) (fun e => e) (fun e => e)
theorem LtM.fr1 {w w' : World} {lt db c b1 b2 : Nat} {lk : Int} {m3 : Value} {p : Pg} (h : LtM w lt db c b1 b2 lk m3 p) (f : Fr (fun k => k = b1) w w') (hm : Cache w' b1 (bytesB p)) : LtM w' lt db c b1 b2 lk m3 p := by
  obtain ⟨n1, n2, n3, n4, n5, n6⟩ := h.ne
  exact ⟨h.well, (f.block lt h.ok.lt n2).trans h.row, h.mem.fr f n4, h.hc, h.cm, hm, h.m2.fr f (fun e => n6 e.symm), h.ne⟩
theorem LtM.fr2 {w w' : World} {lt db c b1 b2 : Nat} {lk : Int} {m3 : Value} {p : Pg} (h : LtM w lt db c b1 b2 lk m3 p) (f : Fr (fun k => k = b2) w w') (hm : Cache w' b2 (bytesB p)) : LtM w' lt db c b1 b2 lk m3 p := by
  obtain ⟨n1, n2, n3, n4, n5, n6⟩ := h.ne
  exact ⟨h.well, (f.block lt h.ok.lt n3).trans h.row, h.mem.fr f n5, h.hc, h.cm, h.m1.fr f n6, hm, h.ne⟩

set_option maxRecDepth 100000 in
set_option maxHeartbeats 1000000 in
theorem funcName_any (lt db c b1 b2 : Nat) (lk : Int) (m3 : Value) (p : Pg) (off : Nat) (s : ByteArray) (w : World) (h : LtM w lt db c b1 b2 lk m3 p) (hat : At (bytesB p) off (strZ s)) (ht : TextOk s) :
    Calls Tryz.prog 92 #[.pointer (some ⟨lt, 0, none⟩), .int .u32 off] w fun e w' => e = .returned (.string s) ∧ LtM w' lt db c b1 b2 lk m3 p ∧ Fr (fun k => k = b1) w w' := by
  have hlt := h.ok.lt
  have hll := h.well.len_le.1
  have hle := hat.le
  rw [strZ_length] at hle
  have c10 := h.ok.c10
  have c18 : w.cell? ⟨lt, 18, none⟩ = some (.map (some b1)) := cell_of_row w _ 18 _ _ _ h.row
  have hs := strAt_eq hat ht
  have hc := h.hc
  have hcm := h.cm
  unfold maxLen at hcm
  have hsz := ht.le
  have hs0 := ht.pos
  obtain ⟨rest, hrest⟩ := hat.drop
  have hnr : (bytesB p).length - off = (s.data.toList ++ 0 :: rest).length := by rw [← hrest, List.length_drop]
  have hm : Mem w db off (s.data.toList ++ 0 :: rest) := h.mem.at ⟨(bytesB p).take off, [], by rw [← hrest]; simp, by simp; omega⟩
  have HM := Lib.hid hm
  have HN := Lib.hid hnr
  have HT := Lib.hid ht.list
  have HH := Lib.hid h
  rcases h.m1.look off with hl | hl
  · rw [hs] at hl
    clear h hm hnr hrest ht hs hat
    go_enter Tryz.func92, Tryz.ntmps92
    go_wp2_with fail
    go_ret
    exact ⟨rfl, HH.out, Fr.refl _ _⟩
  · obtain ⟨w', hr, hc', hf⟩ := h.m1.store off
    rw [hs] at hr
    have HC := Lib.hid (And.intro hc' hf)
    have hcv : (convert 31 9 (.slice (some ⟨db, off, none⟩) s.size (c - off))).run Tryz.prog w = .ok (.string s) w := conv_str hm.left rfl
    clear h hm hnr hrest ht hs hat hc' hf
    go_enter Tryz.func92, Tryz.ntmps92
    go_wp2_with fail
    refine Calls.mono (idxByte_any db off _ (c - off) s rest w HM.out HN.out HT.out) ?_
    rintro e w1 ⟨rfl, hw1⟩
    have hw1' := hw1.symm
    subst hw1'
    go_wp2_with fail
    go_ret
    exact ⟨rfl, HH.out.fr1 HC.out.2 HC.out.1, HC.out.2⟩

set_option maxRecDepth 100000 in
set_option maxHeartbeats 1000000 in
theorem stringFrom_any (lt db c b1 b2 : Nat) (lk : Int) (m3 : Value) (p : Pg) (off : Nat) (s : ByteArray) (w : World) (h : LtM w lt db c b1 b2 lk m3 p) (hat : At (bytesB p) off (strZ s)) (ht : TextOk s) :
    Calls Tryz.prog 72 #[.pointer (some ⟨lt, 0, none⟩), bytesV db c p, .int .u32 off] w fun e w' => e = .returned (.string s) ∧ LtM w' lt db c b1 b2 lk m3 p ∧ Fr (fun k => k = b2) w w' := by
  have hlt := h.ok.lt
  have hll := h.well.len_le.1
  have hle := hat.le
  rw [strZ_length] at hle
  have c19 : w.cell? ⟨lt, 19, none⟩ = some (.map (some b2)) := cell_of_row w _ 19 _ _ _ h.row
  have hs := strAt_eq hat ht
  have hc := h.hc
  have hcm := h.cm
  unfold maxLen at hcm
  have hsz := ht.le
  have hs0 := ht.pos
  obtain ⟨rest, hrest⟩ := hat.drop
  have hnr : (bytesB p).length - off = (s.data.toList ++ 0 :: rest).length := by rw [← hrest, List.length_drop]
  have hm : Mem w db off (s.data.toList ++ 0 :: rest) := h.mem.at ⟨(bytesB p).take off, [], by rw [← hrest]; simp, by simp; omega⟩
  have HM := Lib.hid hm
  have HN := Lib.hid hnr
  have HT := Lib.hid ht.list
  have HH := Lib.hid h
  unfold bytesV
  rcases h.m2.look off with hl | hl
  · rw [hs] at hl
    clear h hm hnr hrest ht hs hat
    go_enter Tryz.func72, Tryz.ntmps72
    go_wp2_with fail
    go_ret
    exact ⟨rfl, HH.out, Fr.refl _ _⟩
  · obtain ⟨w', hr, hc', hf⟩ := h.m2.store off
    rw [hs] at hr
    have HC := Lib.hid (And.intro hc' hf)
    have hcv : (convert 31 9 (.slice (some ⟨db, off, none⟩) s.size (c - off))).run Tryz.prog w = .ok (.string s) w := conv_str hm.left rfl
    clear h hm hnr hrest ht hs hat hc' hf
    go_enter Tryz.func72, Tryz.ntmps72
    go_wp2_with fail
    refine Calls.mono (idxByte_any db off _ (c - off) s rest w HM.out HN.out HT.out) ?_
    rintro e w1 ⟨rfl, hw1⟩
    have hw1' := hw1.symm
    subst hw1'
    go_wp2_with fail
    go_ret
    exact ⟨rfl, HH.out.fr2 HC.out.2 HC.out.1, HC.out.2⟩
set_option maxRecDepth 100000 in
set_option maxHeartbeats 1000000 in
theorem string_any (lt db c b1 b2 : Nat) (lk : Int) (m3 : Value) (p : Pg) (off : Nat) (s : ByteArray) (w : World) (h : LtM w lt db c b1 b2 lk m3 p) (hat : At (bytesB p) off (strZ s)) (ht : TextOk s) :
    Calls Tryz.prog 69 #[.pointer (some ⟨lt, 0, none⟩), .int .u32 off] w fun e w' => e = .returned (.string s) ∧ LtM w' lt db c b1 b2 lk m3 p ∧ Fr (fun k => k = b2) w w' := by
  have hlt := h.ok.lt
  have c12 := h.ok.c12
  have HC := Lib.hid (stringFrom_any lt db c b1 b2 lk m3 p off s w h hat ht)
  clear h hat ht
  go_enter Tryz.func69, Tryz.ntmps69
  go_wp2_with fail
  refine Calls.mono HC.out ?_
  rintro e w1 ⟨rfl, h1, h2⟩
  have HX := Lib.hid (And.intro h1 h2)
  clear h1 h2
  go_wp2_with fail
  go_ret
  exact ⟨rfl, HX.out.1, HX.out.2⟩
end Go.Proofs.YtoedlabfiialfaaGreat
