/-
  The walk through NewLineTable, and what parsePclnTab keeps.
-/
import Derived.Test.YtoedlabfiialfaaGreatLt
import Derived.Test.YtoedlabfiialfaaGreatDet2
import Derived.Test.YtoedlabfiialfaaGreatLocks
import Derived.Defers
import Derived.Recover
namespace Go.Proofs.YtoedlabfiialfaaGreat
open Go.RowKit

/-- the 21 cells of a line table -/
abbrev rowL (D : Value) (lk ver : Int) (big : Bool) (q ps : Int) (fnt fd ft : Value) (nf : Int) (filt pct : Value) (nfl : Int) (m1 m2 m3 : Value) : Array Value :=
  #[D, .int .u64 0, .int .i64 0, .int .i32 lk, .int .u32 0, .int .i64 ver, .bool big, .int .u32 q, .int .u32 ps, .int .u64 0, fnt, .slice none 0 0, fd, ft, .int .u32 nf, filt, pct, .int .u32 nfl, m1, m2, m3]
abbrev nilS : Value := .slice none 0 0
/-- the line table as it is made -/
abbrev row0 (D : Value) (m1 m2 : Value) : Array Value := rowL D 0 0 false 0 0 nilS nilS nilS 0 nilS nilS 0 m1 m2 (.map none)
abbrev bytesV (db c : Nat) (p : Pg) : Value := .slice (some ⟨db, 0, none⟩) (bytesB p).length c
abbrev ftV (db c : Nat) (p : Pg) : Value := .slice (some ⟨db, 8 + wszN p, none⟩) ((2 * p.funcs.length + 1) * wszN p) (c - (8 + wszN p))
abbrev filV (db c : Nat) (p : Pg) : Value := .slice (some ⟨db, filesOff p, none⟩) ((p.files.length + 1) * 4) (c - filesOff p)
/-- the line table once it is read -/
abbrev rowE (db c : Nat) (p : Pg) (lk : Int) (m1 m2 m3 : Value) : Array Value :=
  rowL (bytesV db c p) lk 2 p.big p.quantum (wszN p) (bytesV db c p) (bytesV db c p) (ftV db c p) p.funcs.length (filV db c p) (bytesV db c p) ((p.files.length + 1 : Nat) : Int) m1 m2 m3
theorem LtOk.of_row {w : World} {lt db c : Nat} {p : Pg} {lk : Int} {m1 m2 m3 : Value} (HW : WellP p) (hr : w.heap[lt]? = some (.cells (rowE db c p lk m1 m2 m3) 137 (0, 0)))
    (hm : Mem w db 0 (bytesB p)) (hc : (bytesB p).length ≤ c) (cm : c ≤ maxLen) : LtOk w lt db c p :=
  ⟨HW, hm, hc, cm, cell_of_row w _ 0 _ _ _ hr, cell_of_row w _ 5 _ _ _ hr, cell_of_row w _ 6 _ _ _ hr, cell_of_row w _ 7 _ _ _ hr, cell_of_row w _ 8 _ _ _ hr, cell_of_row w _ 10 _ _ _ hr, cell_of_row w _ 12 _ _ _ hr,
    cell_of_row w _ 13 _ _ _ hr, cell_of_row w _ 14 _ _ _ hr, cell_of_row w _ 15 _ _ _ hr, cell_of_row w _ 16 _ _ _ hr, cell_of_row w _ 17 _ _ _ hr⟩

set_option maxRecDepth 100000 in
set_option maxHeartbeats 1000000 in
theorem newLineTable_any (n c db : Nat) (w : World) :
    Calls Tryz.prog 45 #[.slice (some ⟨db, 0, none⟩) n c, .int .u64 0] w fun e w' => e = .returned (.pointer (some ⟨w.heap.size + 1 + 1, 0, none⟩)) ∧
      w' = ((w.alloc (.map #[] 0)).alloc (.map #[] 0)).alloc (.cells (row0 (.slice (some ⟨db, 0, none⟩) n c) (.map (some w.heap.size)) (.map (some (w.heap.size + 1)))) 137) := by
  have hmm : ∀ (t : TypeId) (w : World), (Instr.makeMap t none).run Tryz.prog w = .ok (.map (some w.heap.size)) (w.alloc (.map #[] 0)) := fun _ _ => rfl
  go_enter Tryz.func45, Tryz.ntmps45
  go_wp2_with fail
  go_ret
  exact ⟨rfl, rfl⟩

/-- in the middle of the reading: the line table's cells are row, its box at bx, nothing else has turned -/
structure PS (w0 w : World) (lt bx db : Nat) (p : Pg) (row : Array Value) : Prop where
  row : w.heap[lt]? = some (.cells row 137 (0, 0))
  bxc : w.heap[bx]? = some (.cells #[.pointer (some ⟨lt, 0, none⟩)] 81 (0, 0))
  mem : Mem w db 0 (bytesB p)
  fr : Fr (fun k => k = lt) w0 w
  nb : bx ≠ lt
  nd : db ≠ lt
theorem PS.set {w0 w : World} {lt bx db : Nat} {p : Pg} {row : Array Value} (h : PS w0 w lt bx db p row) (i : Nat) (v : Value) : PS w0 (w.setCell ⟨lt, i, none⟩ v) lt bx db p (row.setIfInBounds i v) :=
  ⟨heap_setCell_same w lt i row _ v h.row, (set_other (a := ⟨lt, i, none⟩) h.nb).trans h.bxc, Mem.fr (S := fun k => k = lt) h.mem ((Fr.refl (fun k => k = lt) w).set ⟨lt, i, none⟩ (fun _ => rfl) v) h.nd, h.fr.set ⟨lt, i, none⟩ (fun _ => rfl) v, h.nb, h.nd⟩
theorem PS.lt {w0 w : World} {lt bx db : Nat} {p : Pg} {row : Array Value} (h : PS w0 w lt bx db p row) : lt < w.heap.size := (Array.getElem?_eq_some_iff.1 h.row).1
theorem PS.bx {w0 w : World} {lt bx db : Nat} {p : Pg} {row : Array Value} (h : PS w0 w lt bx db p row) : bx < w.heap.size := (Array.getElem?_eq_some_iff.1 h.bxc).1
theorem PS.db {w0 w : World} {lt bx db : Nat} {p : Pg} {row : Array Value} (h : PS w0 w lt bx db p row) (HW : WellP p) : db < w.heap.size :=
  World.block_lt_of_cell? w _ (h.mem 0 (by have := HW.len_le; omega))
theorem PS.keep {w0 w w' : World} {lt bx db : Nat} {p : Pg} {row : Array Value} (h : PS w0 w lt bx db p row) (HW : WellP p) (hb : Below w.heap.size w w') : PS w0 w' lt bx db p row :=
  ⟨(hb.block lt h.lt).trans h.row, (hb.block bx h.bx).trans h.bxc, h.mem.keep (h.db HW) hb, h.fr.trans (Fr.of_below hb), h.nb, h.nd⟩
theorem PS.alloc {w0 w W' : World} {lt bx db : Nat} {p : Pg} {row : Array Value} (h : PS w0 w lt bx db p row) (HW : WellP p) (o : Obj) (e : w.alloc o = W') : PS w0 W' lt bx db p row := by
  subst e
  exact h.keep HW ((Below.refl _ _).alloc (Nat.le_refl _) o)
theorem PS.cell {w0 w : World} {lt bx db : Nat} {p : Pg} {row : Array Value} (h : PS w0 w lt bx db p row) (i : Nat) : w.cell? ⟨lt, i, none⟩ = row[i]? := cell_of_row w lt i _ _ _ h.row
theorem PS.free {w0 w : World} {lt bx db : Nat} {p : Pg} {row : Array Value} (h : PS w0 w lt bx db p row) (i : Nat) : w.frozen? ⟨lt, i, none⟩ = false := by simp [World.frozen?, h.row]
theorem PS.box {w0 w : World} {lt bx db : Nat} {p : Pg} {row : Array Value} (h : PS w0 w lt bx db p row) : w.cell? ⟨bx, 0, none⟩ = some (.pointer (some ⟨lt, 0, none⟩)) := cell_of_one h.bxc
end Go.Proofs.YtoedlabfiialfaaGreat
