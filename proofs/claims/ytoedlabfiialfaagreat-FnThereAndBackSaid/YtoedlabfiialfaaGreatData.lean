/-
  How runs, functions and programs lie in memory.
-/
import Derived.Test.YtoedlabfiialfaaGreatProg
import Derived.Test.YtoedlabfiialfaaGreatLay
import Derived.WalkKit
import Derived.WalkSpells
import Derived.WalkLawsBesides
import Derived.Lib.Hide
import Derived.Lib.ConvBytes
import Derived.Laws.IdiomStrings
import Derived.Deep.RegionHeld3
import Derived.BigQuiet
import Derived.Deep.QuietTactic
namespace Go.Proofs.YtoedlabfiialfaaGreat
open Go.RowKit

theorem bcell {W w1 : World} (hb : Below W.heap.size W w1) : (∀ b o, b < W.heap.size → w1.cell? ⟨b, o, none⟩ = W.cell? ⟨b, o, none⟩) ∧ (∀ b o, b < W.heap.size → w1.frozen? ⟨b, o, none⟩ = W.frozen? ⟨b, o, none⟩) :=
  ⟨fun b o h => hb.cell (p := ⟨b, o, none⟩) h, fun b o h => hb.frozen (p := ⟨b, o, none⟩) h⟩
theorem below_drewN {B : Nat} {a w : World} (h : Below B a w) (n : Nat) : Below B a (w.drewN n) := ⟨h.os, h.tape, h.output, h.size, h.block⟩

/-! ### strings, runs and functions in memory, below a block number -/
def StrSl (w : World) (B : Nat) (A : Option Addr) (l : List ByteArray) : Prop :=
  ∀ k (h : k < l.length), ∃ b off, A = some ⟨b, off, none⟩ ∧ b < B ∧ w.cell? ⟨b, off + k, none⟩ = some (.string l[k])
theorem StrSl.keep {w w' : World} {B : Nat} {A : Option Addr} {l : List ByteArray} (h : StrSl w B A l) (hb : Below B w w') : StrSl w' B A l := by
  intro k hk
  obtain ⟨b, off, e, hlt, hc⟩ := h k hk
  exact ⟨b, off, e, hlt, (hb.cell (p := ⟨b, off + k, none⟩) hlt).trans hc⟩
theorem StrSl.take {w : World} {B : Nat} {A : Option Addr} {l : List ByteArray} (h : StrSl w B A l) (n : Nat) : StrSl w B A (l.take n) := by
  intro k hk
  rw [List.length_take] at hk
  obtain ⟨b, off, e, hlt, hc⟩ := h k (by omega)
  exact ⟨b, off, e, hlt, by rw [List.getElem_take]; exact hc⟩

def RunSl (w : World) (B : Nat) (A : Option Addr) (l : List Run) : Prop :=
  ∀ k (h : k < l.length), ∃ b off, A = some ⟨b, off, none⟩ ∧ b < B ∧ w.cell? ⟨b, off + k * 2, none⟩ = some (.int .u32 l[k].q) ∧ w.cell? ⟨b, off + k * 2 + 1, none⟩ = some (.int .i32 l[k].v)
theorem RunSl.keep {w w' : World} {B : Nat} {A : Option Addr} {l : List Run} (h : RunSl w B A l) (hb : Below B w w') : RunSl w' B A l := by
  intro k hk
  obtain ⟨b, off, e, hlt, hc, hd⟩ := h k hk
  exact ⟨b, off, e, hlt, (hb.cell (p := ⟨b, off + k * 2, none⟩) hlt).trans hc, (hb.cell (p := ⟨b, off + k * 2 + 1, none⟩) hlt).trans hd⟩

/-- runs as they are read: the numbers fit their kinds -/
structure RunOk (w : World) (B : Nat) (A : Option Addr) (l : List Run) : Prop where
  len : l.length ≤ maxLen
  q : ∀ k (h : k < l.length), l[k].q < 4294967296
  v : ∀ k (h : k < l.length), -2147483648 ≤ l[k].v ∧ l[k].v ≤ 2147483647
  sl : RunSl w B A l
theorem RunOk.keep {w w' : World} {B : Nat} {A : Option Addr} {l : List Run} (h : RunOk w B A l) (hb : Below B w w') : RunOk w' B A l := ⟨h.len, h.q, h.v, h.sl.keep hb⟩

structure FnAt (w : World) (B : Nat) (b off : Nat) (f : Fn) : Prop where
  lt : b < B
  name : w.cell? ⟨b, off, none⟩ = some (.string f.name)
  frame : w.cell? ⟨b, off + 1, none⟩ = some (.int .i32 f.frame)
  lines : ∃ A c, w.cell? ⟨b, off + 2, none⟩ = some (.slice A f.lines.length c) ∧ RunOk w B A f.lines
  files : ∃ A c, w.cell? ⟨b, off + 3, none⟩ = some (.slice A f.files.length c) ∧ RunOk w B A f.files
  free : w.cell? ⟨b, off + 4, none⟩ = some (.int .u32 f.free)
  szn : f.name.size ≤ maxLen
  szf : -2147483648 ≤ f.frame ∧ f.frame ≤ 2147483647
  szr : f.free < 4294967296
theorem FnAt.keep {w w' : World} {B b off : Nat} {f : Fn} (h : FnAt w B b off f) (hb : Below B w w') : FnAt w' B b off f := by
  obtain ⟨lA, lc, l1, l2⟩ := h.lines
  obtain ⟨fA, fc, f1, f2⟩ := h.files
  exact ⟨h.lt, (hb.cell (p := ⟨b, off, none⟩) h.lt).trans h.name, (hb.cell (p := ⟨b, off + 1, none⟩) h.lt).trans h.frame, ⟨lA, lc, (hb.cell (p := ⟨b, off + 2, none⟩) h.lt).trans l1, l2.keep hb⟩,
    ⟨fA, fc, (hb.cell (p := ⟨b, off + 3, none⟩) h.lt).trans f1, f2.keep hb⟩, (hb.cell (p := ⟨b, off + 4, none⟩) h.lt).trans h.free, h.szn, h.szf, h.szr⟩
def FnSl (w : World) (B : Nat) (A : Option Addr) (l : List Fn) : Prop :=
  ∀ k (h : k < l.length), ∃ b off, A = some ⟨b, off, none⟩ ∧ FnAt w B b (off + k * 5) l[k]
theorem FnSl.keep {w w' : World} {B : Nat} {A : Option Addr} {l : List Fn} (h : FnSl w B A l) (hb : Below B w w') : FnSl w' B A l := by
  intro k hk
  obtain ⟨b, off, e, hc⟩ := h k hk
  exact ⟨b, off, e, hc.keep hb⟩

/-- a program as it is read, its slices at FA and SA -/
structure PgOk (w : World) (B : Nat) (FA SA : Option Addr) (fc sc : Nat) (p : Pg) : Prop where
  bd : B ≤ w.heap.size
  fl : p.funcs.length ≤ maxLen
  sl : p.files.length ≤ maxLen
  ssz : ∀ k (h : k < p.files.length), p.files[k].size ≤ maxLen
  start : p.start < 18446744073709551616
  quantum : -9223372036854775808 ≤ p.quantum ∧ p.quantum ≤ 9223372036854775807
  fn : FnSl w B FA p.funcs
  st : StrSl w B SA p.files
  fcap : p.funcs.length ≤ fc
  fcm : fc ≤ maxLen
  scap : p.files.length ≤ sc
  scm : sc ≤ maxLen
theorem PgOk.keep {w w' : World} {B : Nat} {FA SA : Option Addr} {fc sc : Nat} {p : Pg} (h : PgOk w B FA SA fc sc p) (hb : Below B w w') : PgOk w' B FA SA fc sc p :=
  ⟨Nat.le_trans h.bd hb.size, h.fl, h.sl, h.ssz, h.start, h.quantum, h.fn.keep hb, h.st.keep hb, h.fcap, h.fcm, h.scap, h.scm⟩
theorem PgOk.drew {w : World} {B : Nat} {FA SA : Option Addr} {fc sc : Nat} {p : Pg} (h : PgOk w B FA SA fc sc p) : PgOk w.drew B FA SA fc sc p := h.keep (Below.refl _ _).drew

/-- a program as a value -/
abbrev pgv (FA SA : Option Addr) (fc sc : Nat) (p : Pg) : Value := .agg #[.int .u64 p.start, .slice FA p.funcs.length fc, .slice SA p.files.length sc, .bool p.big, .bool p.wide, .int .i64 p.quantum]
end Go.Proofs.YtoedlabfiialfaaGreat
