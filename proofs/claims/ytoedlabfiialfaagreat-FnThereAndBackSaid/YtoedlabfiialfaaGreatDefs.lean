/-
  The data that the laws speak of: runs, functions, programs; when a program is well.
-/
import Derived.Below
namespace Go.Proofs.YtoedlabfiialfaaGreat

structure Run where
  q : Nat
  v : Int
  deriving Inhabited
structure Fn where
  name : ByteArray
  frame : Int
  lines : List Run
  files : List Run
  free : Nat
  deriving Inhabited
structure Pg where
  start : Nat
  funcs : List Fn
  files : List ByteArray
  big : Bool
  wide : Bool
  quantum : Int
  deriving Inhabited

def InL (l : List ByteArray) (x : ByteArray) : Prop := ∃ k, ∃ h : k < l.length, l[k] = x
def quantaTo (l : List Run) : Nat → Int
  | 0 => 0
  | k + 1 => IntKind.u64.wrap (quantaTo l k + (l.getD k default).q)
structure TextOk (s : ByteArray) : Prop where
  no0 : ∀ k (h : k < s.size), s[k] ≠ 0
  pos : 0 < s.size
  le : s.size ≤ 1000
structure RunGood (l : List Run) (most : Int) (k : Nat) (r : Run) : Prop where
  q1 : 1 ≤ r.q
  q2 : r.q ≤ 65536
  v1 : 1 ≤ r.v
  v2 : r.v ≤ most
  ne : ∀ k', k = k' + 1 → ∀ h : k' < l.length, l[k'].v ≠ r.v
structure RunsGood (l : List Run) (most : Int) : Prop where
  each : ∀ k (h : k < l.length), RunGood l most k l[k]
  pos : 0 < l.length
  le : l.length ≤ 100
structure FnGood (nfiles : Nat) (f : Fn) : Prop where
  name : TextOk f.name
  fr0 : 0 ≤ f.frame
  fr1 : f.frame ≤ 65536
  free : f.free ≤ 65536
  lines : RunsGood f.lines 65536
  files : RunsGood f.files nfiles
  same : quantaTo f.lines f.lines.length = quantaTo f.files f.files.length
structure WellHead (p : Pg) : Prop where
  quantum : p.quantum = 1 ∨ p.quantum = 2 ∨ p.quantum = 4
  start0 : p.start ≠ 0
  start1 : p.start ≤ 16777216
  startq : (p.start : Int) % p.quantum = 0
  pos : 0 < p.funcs.length
  fl : p.funcs.length ≤ 100
  sl : p.files.length ≤ 100
structure WellP (p : Pg) : Prop where
  head : WellHead p
  files : ∀ i (h : i < p.files.length), TextOk p.files[i] ∧ ¬ InL (p.files.take i) p.files[i]
  funcs : ∀ i (h : i < p.funcs.length), FnGood p.files.length p.funcs[i]
end Go.Proofs.YtoedlabfiialfaaGreat
