/-
  No cell of these rows narrows 'for every input' (looked for: loops, veiled, ifaces, maps, wideKeys, modest, calm, conditions, laid).
  DERIVED. THE GIVEN ROWS OF THIS SEAT. 4 by the template 'for every input the law returns true; each argument reads behind the call as it read before'; 0 by the template 'total and deterministic' (their statements: YtoedlabfiialfaaTotals.lean).
  GIVEN WITH THE SEED: the statements are not yours to turn. If you find one false, say at which input.
  Laid BY PROGRAM, IN A SANDBOX (cutbox-rows.mjs): the forced cells as the released guide's own fill.sh prints them over the translation c34642c35bdd1c19… (all of the seat's roots in one cut). By AI agents, Wed Nov 11 2026. No macro, syntax, notation, axiom, sorry.
-/
import Derived.Test.YtoedlabfiialfaaChecked
import GoSem.Claim
import GoSem.ClaimJoined
import GoSem.ClaimMapViews
import Derived.JoinedTies
import Derived.KernelRfl
namespace Go.Proofs.Ytoedlabfiialfaa
/- THE CELL 'sum', in the pinned program and in every row, IS THE sha256 OF THE DUMP (.gsa) THAT YtoedlabfiialfaaProg.lean LOADS. Nothing in Lean hashes anything: it is a label: what it is worth is what the hold of that sum in a sandbox is worth. -/
noncomputable def Try.pinned : Pinned := { name := "ytoedlabfiialfaa", sum := "c34642c35bdd1c19724b55776da19e13d94940c3cd9e6aa344fd9514dcced269", checked := Try.checked }
namespace Rows
def none {H : Type} : Left H := { results := [], args := [] }

/-- 'laws.FnExactPlain': WHATEVER THE INPUT: true; the input reads as it did. -/
def fnExactPlainSpec : ChangeSpec := { name := "fnExactPlain", fn := fun _ => fun
  | [d1, d2] => { results := [.lit (.bool true)], args := [d1, d2] }
  | _ => none }
def fnExactPlainRow : OpenClaim := { program := "ytoedlabfiialfaa", sum := "c34642c35bdd1c19724b55776da19e13d94940c3cd9e6aa344fd9514dcced269", func := "loop.example/pub-linetables/laws.FnExactPlain", spec := "fnExactPlain", inPlace := ["(*internal/sync.Mutex).Lock", "internal/race.Disable", "sync/atomic.CompareAndSwapInt32", "internal/race.Enable", "internal/race.Acquire", "(*internal/sync.Mutex).lockSlow", "internal/sync.runtime_canSpin", "internal/sync.runtime_doSpin", "internal/sync.throw", "internal/sync.runtime_nanotime", "internal/sync.runtime_SemacquireMutex", "sync/atomic.AddInt32", "(*internal/sync.Mutex).Unlock", "internal/race.ReleaseMerge", "(*internal/sync.Mutex).unlockSlow", "internal/sync.fatal", "internal/sync.runtime_Semrelease"], unfollowed := true, recurses := true, apart := false }
def FnExactPlainSaid : Prop := fnExactPlainRow.holds Try.pinned (OpenSpec.ofChange fnExactPlainSpec)

/-- ITS FALSE NEIGHBOUR: 'it returns false'. Refute it at one input. -/
def fnExactPlainWrong : ChangeSpec := { name := "fnExactPlain", fn := fun _ => fun
  | [d1, d2] => { results := [.lit (.bool false)], args := [d1, d2] }
  | _ => none }
def FnExactPlainWrongFalsely : Prop := fnExactPlainRow.holds Try.pinned (OpenSpec.ofChange fnExactPlainWrong)

/-- 'laws.FnExactFind': WHATEVER THE INPUT: true; the input reads as it did. -/
def fnExactFindSpec : ChangeSpec := { name := "fnExactFind", fn := fun _ => fun
  | [d1, d2] => { results := [.lit (.bool true)], args := [d1, d2] }
  | _ => none }
def fnExactFindRow : OpenClaim := { program := "ytoedlabfiialfaa", sum := "c34642c35bdd1c19724b55776da19e13d94940c3cd9e6aa344fd9514dcced269", func := "loop.example/pub-linetables/laws.FnExactFind", spec := "fnExactFind", inPlace := ["(*internal/sync.Mutex).Lock", "internal/race.Disable", "sync/atomic.CompareAndSwapInt32", "internal/race.Enable", "internal/race.Acquire", "(*internal/sync.Mutex).lockSlow", "internal/sync.runtime_canSpin", "internal/sync.runtime_doSpin", "internal/sync.throw", "internal/sync.runtime_nanotime", "internal/sync.runtime_SemacquireMutex", "sync/atomic.AddInt32", "(*internal/sync.Mutex).Unlock", "internal/race.ReleaseMerge", "(*internal/sync.Mutex).unlockSlow", "internal/sync.fatal", "internal/sync.runtime_Semrelease", "internal/bytealg.IndexByte"], unfollowed := true, recurses := true, apart := false }
def FnExactFindSaid : Prop := fnExactFindRow.holds Try.pinned (OpenSpec.ofChange fnExactFindSpec)

/-- ITS FALSE NEIGHBOUR: 'it returns false'. Refute it at one input. -/
def fnExactFindWrong : ChangeSpec := { name := "fnExactFind", fn := fun _ => fun
  | [d1, d2] => { results := [.lit (.bool false)], args := [d1, d2] }
  | _ => none }
def FnExactFindWrongFalsely : Prop := fnExactFindRow.holds Try.pinned (OpenSpec.ofChange fnExactFindWrong)

/-- 'laws.FnExactFuncs': WHATEVER THE INPUT: true; the input reads as it did. -/
def fnExactFuncsSpec : ChangeSpec := { name := "fnExactFuncs", fn := fun _ => fun
  | [d] => { results := [.lit (.bool true)], args := [d] }
  | _ => none }
def fnExactFuncsRow : OpenClaim := { program := "ytoedlabfiialfaa", sum := "c34642c35bdd1c19724b55776da19e13d94940c3cd9e6aa344fd9514dcced269", func := "loop.example/pub-linetables/laws.FnExactFuncs", spec := "fnExactFuncs", inPlace := ["(*internal/sync.Mutex).Lock", "internal/race.Disable", "sync/atomic.CompareAndSwapInt32", "internal/race.Enable", "internal/race.Acquire", "(*internal/sync.Mutex).lockSlow", "internal/sync.runtime_canSpin", "internal/sync.runtime_doSpin", "internal/sync.throw", "internal/sync.runtime_nanotime", "internal/sync.runtime_SemacquireMutex", "sync/atomic.AddInt32", "(*internal/sync.Mutex).Unlock", "internal/race.ReleaseMerge", "(*internal/sync.Mutex).unlockSlow", "internal/sync.fatal", "internal/sync.runtime_Semrelease", "internal/bytealg.IndexByte"], unfollowed := true, recurses := true, apart := false }
def FnExactFuncsSaid : Prop := fnExactFuncsRow.holds Try.pinned (OpenSpec.ofChange fnExactFuncsSpec)

/-- ITS FALSE NEIGHBOUR: 'it returns false'. Refute it at one input. -/
def fnExactFuncsWrong : ChangeSpec := { name := "fnExactFuncs", fn := fun _ => fun
  | [d] => { results := [.lit (.bool false)], args := [d] }
  | _ => none }
def FnExactFuncsWrongFalsely : Prop := fnExactFuncsRow.holds Try.pinned (OpenSpec.ofChange fnExactFuncsWrong)

/-- 'laws.FnExactAt': WHATEVER THE INPUT: true; the input reads as it did. -/
def fnExactAtSpec : ChangeSpec := { name := "fnExactAt", fn := fun _ => fun
  | [d1, d2] => { results := [.lit (.bool true)], args := [d1, d2] }
  | _ => none }
def fnExactAtRow : OpenClaim := { program := "ytoedlabfiialfaa", sum := "c34642c35bdd1c19724b55776da19e13d94940c3cd9e6aa344fd9514dcced269", func := "loop.example/pub-linetables/laws.FnExactAt", spec := "fnExactAt", inPlace := ["(*internal/sync.Mutex).Lock", "internal/race.Disable", "sync/atomic.CompareAndSwapInt32", "internal/race.Enable", "internal/race.Acquire", "(*internal/sync.Mutex).lockSlow", "internal/sync.runtime_canSpin", "internal/sync.runtime_doSpin", "internal/sync.throw", "internal/sync.runtime_nanotime", "internal/sync.runtime_SemacquireMutex", "sync/atomic.AddInt32", "(*internal/sync.Mutex).Unlock", "internal/race.ReleaseMerge", "(*internal/sync.Mutex).unlockSlow", "internal/sync.fatal", "internal/sync.runtime_Semrelease", "internal/bytealg.IndexByte"], unfollowed := true, recurses := true, apart := false }
def FnExactAtSaid : Prop := fnExactAtRow.holds Try.pinned (OpenSpec.ofChange fnExactAtSpec)

/-- ITS FALSE NEIGHBOUR: 'it returns false'. Refute it at one input. -/
def fnExactAtWrong : ChangeSpec := { name := "fnExactAt", fn := fun _ => fun
  | [d1, d2] => { results := [.lit (.bool false)], args := [d1, d2] }
  | _ => none }
def FnExactAtWrongFalsely : Prop := fnExactAtRow.holds Try.pinned (OpenSpec.ofChange fnExactAtWrong)

/- THE SECOND FORM. 'bulk': how many values and letters a reading holds, each counted each time it is reached (what is shared counts as often as it is met; a slice's spare places count too). A statement '..UptoSaid' is the law's where the arguments, and the package variables that the reading takes, are together of bulk at most 1048576: NARROWER than '..Said'. Prove '..Said' where nothing that the law and all that it calls make is longer than what came in: it says more and counts as full. Else prove '..UptoSaid'. A law counts once. -/
mutual
def uptoBulk {H : Type} : DataW H → Nat
  | .lit (.string bytes) => bytes.length + 1
  | .lit _ => 1
  | .nil => 1
  | .ptr d => uptoBulk d + 1
  | .slice elems spare => uptoBulkAll elems + uptoBulkAll spare + 1
  | .agg parts => uptoBulkAll parts + 1
  | .iface _ d => uptoBulk d + 1
  | .map entries => uptoBulkEntries entries + 1
  | .held _ => 1
def uptoBulkAll {H : Type} : List (DataW H) → Nat
  | [] => 0
  | d :: r => uptoBulk d + uptoBulkAll r
def uptoBulkEntries {H : Type} : List (Lit × DataW H) → Nat
  | [] => 0
  | x :: r => uptoBulkEntry x + uptoBulkEntries r
def uptoBulkEntry {H : Type} : Lit × DataW H → Nat
  | (.string bytes, d) => bytes.length + uptoBulk d + 1
  | (_, d) => uptoBulk d + 1
 end
def uptoSmall : (H : Type) → List (DataW H) → Bool := fun _ ds => decide (uptoBulkAll ds ≤ 1048576)
def OpenSpec.upto (s : _root_.Go.ChangeSpec) : _root_.Go.OpenSpec := { _root_.Go.OpenSpec.ofChange s with cond := some uptoSmall }

/-- 'laws.FnExactPlain', WHERE WHAT IT READS IS OF BULK AT MOST 1048576: true; the input reads as it did. -/
def fnExactPlainUptoRow : OpenClaim := { program := "ytoedlabfiialfaa", sum := "c34642c35bdd1c19724b55776da19e13d94940c3cd9e6aa344fd9514dcced269", func := "loop.example/pub-linetables/laws.FnExactPlain", spec := "fnExactPlain", inPlace := ["(*internal/sync.Mutex).Lock", "internal/race.Disable", "sync/atomic.CompareAndSwapInt32", "internal/race.Enable", "internal/race.Acquire", "(*internal/sync.Mutex).lockSlow", "internal/sync.runtime_canSpin", "internal/sync.runtime_doSpin", "internal/sync.throw", "internal/sync.runtime_nanotime", "internal/sync.runtime_SemacquireMutex", "sync/atomic.AddInt32", "(*internal/sync.Mutex).Unlock", "internal/race.ReleaseMerge", "(*internal/sync.Mutex).unlockSlow", "internal/sync.fatal", "internal/sync.runtime_Semrelease"], unfollowed := true, recurses := true, apart := false, narrowed := true }
def FnExactPlainUptoSaid : Prop := fnExactPlainUptoRow.holds Try.pinned (OpenSpec.upto fnExactPlainSpec)

/-- 'laws.FnExactFind', WHERE WHAT IT READS IS OF BULK AT MOST 1048576: true; the input reads as it did. -/
def fnExactFindUptoRow : OpenClaim := { program := "ytoedlabfiialfaa", sum := "c34642c35bdd1c19724b55776da19e13d94940c3cd9e6aa344fd9514dcced269", func := "loop.example/pub-linetables/laws.FnExactFind", spec := "fnExactFind", inPlace := ["(*internal/sync.Mutex).Lock", "internal/race.Disable", "sync/atomic.CompareAndSwapInt32", "internal/race.Enable", "internal/race.Acquire", "(*internal/sync.Mutex).lockSlow", "internal/sync.runtime_canSpin", "internal/sync.runtime_doSpin", "internal/sync.throw", "internal/sync.runtime_nanotime", "internal/sync.runtime_SemacquireMutex", "sync/atomic.AddInt32", "(*internal/sync.Mutex).Unlock", "internal/race.ReleaseMerge", "(*internal/sync.Mutex).unlockSlow", "internal/sync.fatal", "internal/sync.runtime_Semrelease", "internal/bytealg.IndexByte"], unfollowed := true, recurses := true, apart := false, narrowed := true }
def FnExactFindUptoSaid : Prop := fnExactFindUptoRow.holds Try.pinned (OpenSpec.upto fnExactFindSpec)

/-- 'laws.FnExactFuncs', WHERE WHAT IT READS IS OF BULK AT MOST 1048576: true; the input reads as it did. -/
def fnExactFuncsUptoRow : OpenClaim := { program := "ytoedlabfiialfaa", sum := "c34642c35bdd1c19724b55776da19e13d94940c3cd9e6aa344fd9514dcced269", func := "loop.example/pub-linetables/laws.FnExactFuncs", spec := "fnExactFuncs", inPlace := ["(*internal/sync.Mutex).Lock", "internal/race.Disable", "sync/atomic.CompareAndSwapInt32", "internal/race.Enable", "internal/race.Acquire", "(*internal/sync.Mutex).lockSlow", "internal/sync.runtime_canSpin", "internal/sync.runtime_doSpin", "internal/sync.throw", "internal/sync.runtime_nanotime", "internal/sync.runtime_SemacquireMutex", "sync/atomic.AddInt32", "(*internal/sync.Mutex).Unlock", "internal/race.ReleaseMerge", "(*internal/sync.Mutex).unlockSlow", "internal/sync.fatal", "internal/sync.runtime_Semrelease", "internal/bytealg.IndexByte"], unfollowed := true, recurses := true, apart := false, narrowed := true }
def FnExactFuncsUptoSaid : Prop := fnExactFuncsUptoRow.holds Try.pinned (OpenSpec.upto fnExactFuncsSpec)

/-- 'laws.FnExactAt', WHERE WHAT IT READS IS OF BULK AT MOST 1048576: true; the input reads as it did. -/
def fnExactAtUptoRow : OpenClaim := { program := "ytoedlabfiialfaa", sum := "c34642c35bdd1c19724b55776da19e13d94940c3cd9e6aa344fd9514dcced269", func := "loop.example/pub-linetables/laws.FnExactAt", spec := "fnExactAt", inPlace := ["(*internal/sync.Mutex).Lock", "internal/race.Disable", "sync/atomic.CompareAndSwapInt32", "internal/race.Enable", "internal/race.Acquire", "(*internal/sync.Mutex).lockSlow", "internal/sync.runtime_canSpin", "internal/sync.runtime_doSpin", "internal/sync.throw", "internal/sync.runtime_nanotime", "internal/sync.runtime_SemacquireMutex", "sync/atomic.AddInt32", "(*internal/sync.Mutex).Unlock", "internal/race.ReleaseMerge", "(*internal/sync.Mutex).unlockSlow", "internal/sync.fatal", "internal/sync.runtime_Semrelease", "internal/bytealg.IndexByte"], unfollowed := true, recurses := true, apart := false, narrowed := true }
def FnExactAtUptoSaid : Prop := fnExactAtUptoRow.holds Try.pinned (OpenSpec.upto fnExactAtSpec)

end Rows
end Go.Proofs.Ytoedlabfiialfaa
