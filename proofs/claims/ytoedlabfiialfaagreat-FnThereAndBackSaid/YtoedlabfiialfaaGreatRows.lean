/-
  No cell of these rows narrows 'for every input' (looked for: loops, veiled, ifaces, maps, wideKeys, modest, calm, conditions, laid).
  DERIVED. THE GIVEN ROWS OF THIS SEAT. 5 by the template 'for every input the law returns true; each argument reads behind the call as it read before'; 0 by the template 'total and deterministic' (their statements: YtoedlabfiialfaaGreatTotals.lean).
  GIVEN WITH THE SEED: the statements are not yours to turn. If you find one false, say at which input.
  Laid BY PROGRAM, IN A SANDBOX (cutbox-rows.mjs): the forced cells as the released guide's own fill.sh prints them over the translation a60f64ce84156e35… (all of the seat's roots in one cut). By AI agents, Wed Nov 11 2026. No macro, syntax, notation, axiom, sorry.
-/
import Derived.Test.YtoedlabfiialfaaGreatChecked
import GoSem.Claim
import GoSem.ClaimJoined
import GoSem.ClaimMapViews
import Derived.JoinedTies
import Derived.KernelRfl
namespace Go.Proofs.YtoedlabfiialfaaGreat
/- THE CELL 'sum', in the pinned program and in every row, IS THE sha256 OF THE DUMP (.gsa) THAT YtoedlabfiialfaaGreatProg.lean LOADS. Nothing in Lean hashes anything: it is a label: what it is worth is what the hold of that sum in a sandbox is worth. -/
noncomputable def Tryz.pinned : Pinned := { name := "ytoedlabfiialfaagreat", sum := "a60f64ce84156e3510c1cbfd1bcdc34153c1125a2f617dbd054e644d81a5e7cf", checked := Tryz.checked }
namespace Rows
def none {H : Type} : Left H := { results := [], args := [] }

/-- 'laws.FnExactLine': WHATEVER THE INPUT: true; the input reads as it did. -/
def fnExactLineSpec : ChangeSpec := { name := "fnExactLine", fn := fun _ => fun
  | [d1, d2] => { results := [.lit (.bool true)], args := [d1, d2] }
  | _ => none }
def fnExactLineRow : OpenClaim := { program := "ytoedlabfiialfaagreat", sum := "a60f64ce84156e3510c1cbfd1bcdc34153c1125a2f617dbd054e644d81a5e7cf", func := "loop.example/pub-linetables/laws.FnExactLine", spec := "fnExactLine", inPlace := ["(*internal/sync.Mutex).Lock", "internal/race.Disable", "sync/atomic.CompareAndSwapInt32", "internal/race.Enable", "internal/race.Acquire", "(*internal/sync.Mutex).lockSlow", "internal/sync.runtime_canSpin", "internal/sync.runtime_doSpin", "internal/sync.throw", "internal/sync.runtime_nanotime", "internal/sync.runtime_SemacquireMutex", "sync/atomic.AddInt32", "(*internal/sync.Mutex).Unlock", "internal/race.ReleaseMerge", "(*internal/sync.Mutex).unlockSlow", "internal/sync.fatal", "internal/sync.runtime_Semrelease", "internal/bytealg.IndexByte"], unfollowed := true, recurses := true, apart := false }
def FnExactLineSaid : Prop := fnExactLineRow.holds Tryz.pinned (OpenSpec.ofChange fnExactLineSpec)

/-- ITS FALSE NEIGHBOUR: 'it returns false'. Refute it at one input. -/
def fnExactLineWrong : ChangeSpec := { name := "fnExactLine", fn := fun _ => fun
  | [d1, d2] => { results := [.lit (.bool false)], args := [d1, d2] }
  | _ => none }
def FnExactLineWrongFalsely : Prop := fnExactLineRow.holds Tryz.pinned (OpenSpec.ofChange fnExactLineWrong)

/-- 'laws.FnForms': WHATEVER THE INPUT: true; the input reads as it did. -/
def fnFormsSpec : ChangeSpec := { name := "fnForms", fn := fun _ => fun
  | [d1, d2] => { results := [.lit (.bool true)], args := [d1, d2] }
  | _ => none }
def fnFormsRow : OpenClaim := { program := "ytoedlabfiialfaagreat", sum := "a60f64ce84156e3510c1cbfd1bcdc34153c1125a2f617dbd054e644d81a5e7cf", func := "loop.example/pub-linetables/laws.FnForms", spec := "fnForms", inPlace := ["(*internal/sync.Mutex).Lock", "internal/race.Disable", "sync/atomic.CompareAndSwapInt32", "internal/race.Enable", "internal/race.Acquire", "(*internal/sync.Mutex).lockSlow", "internal/sync.runtime_canSpin", "internal/sync.runtime_doSpin", "internal/sync.throw", "internal/sync.runtime_nanotime", "internal/sync.runtime_SemacquireMutex", "sync/atomic.AddInt32", "(*internal/sync.Mutex).Unlock", "internal/race.ReleaseMerge", "(*internal/sync.Mutex).unlockSlow", "internal/sync.fatal", "internal/sync.runtime_Semrelease", "internal/bytealg.IndexByte"], unfollowed := true, recurses := true, apart := false }
def FnFormsSaid : Prop := fnFormsRow.holds Tryz.pinned (OpenSpec.ofChange fnFormsSpec)

/-- ITS FALSE NEIGHBOUR: 'it returns false'. Refute it at one input. -/
def fnFormsWrong : ChangeSpec := { name := "fnForms", fn := fun _ => fun
  | [d1, d2] => { results := [.lit (.bool false)], args := [d1, d2] }
  | _ => none }
def FnFormsWrongFalsely : Prop := fnFormsRow.holds Tryz.pinned (OpenSpec.ofChange fnFormsWrong)

/-- 'laws.FnExactPlace': WHATEVER THE INPUT: true; the input reads as it did. -/
def fnExactPlaceSpec : ChangeSpec := { name := "fnExactPlace", fn := fun _ => fun
  | [d1, d2, d3] => { results := [.lit (.bool true)], args := [d1, d2, d3] }
  | _ => none }
def fnExactPlaceRow : OpenClaim := { program := "ytoedlabfiialfaagreat", sum := "a60f64ce84156e3510c1cbfd1bcdc34153c1125a2f617dbd054e644d81a5e7cf", func := "loop.example/pub-linetables/laws.FnExactPlace", spec := "fnExactPlace", inPlace := ["(*internal/sync.Mutex).Lock", "internal/race.Disable", "sync/atomic.CompareAndSwapInt32", "internal/race.Enable", "internal/race.Acquire", "(*internal/sync.Mutex).lockSlow", "internal/sync.runtime_canSpin", "internal/sync.runtime_doSpin", "internal/sync.throw", "internal/sync.runtime_nanotime", "internal/sync.runtime_SemacquireMutex", "sync/atomic.AddInt32", "(*internal/sync.Mutex).Unlock", "internal/race.ReleaseMerge", "(*internal/sync.Mutex).unlockSlow", "internal/sync.fatal", "internal/sync.runtime_Semrelease", "internal/bytealg.IndexByte"], unfollowed := true, recurses := true, apart := false }
def FnExactPlaceSaid : Prop := fnExactPlaceRow.holds Tryz.pinned (OpenSpec.ofChange fnExactPlaceSpec)

/-- ITS FALSE NEIGHBOUR: 'it returns false'. Refute it at one input. -/
def fnExactPlaceWrong : ChangeSpec := { name := "fnExactPlace", fn := fun _ => fun
  | [d1, d2, d3] => { results := [.lit (.bool false)], args := [d1, d2, d3] }
  | _ => none }
def FnExactPlaceWrongFalsely : Prop := fnExactPlaceRow.holds Tryz.pinned (OpenSpec.ofChange fnExactPlaceWrong)

/-- 'laws.FnSameFunc': WHATEVER THE INPUT: true; the input reads as it did. -/
def fnSameFuncSpec : ChangeSpec := { name := "fnSameFunc", fn := fun _ => fun
  | [d1, d2] => { results := [.lit (.bool true)], args := [d1, d2] }
  | _ => none }
def fnSameFuncRow : OpenClaim := { program := "ytoedlabfiialfaagreat", sum := "a60f64ce84156e3510c1cbfd1bcdc34153c1125a2f617dbd054e644d81a5e7cf", func := "loop.example/pub-linetables/laws.FnSameFunc", spec := "fnSameFunc", inPlace := ["(*internal/sync.Mutex).Lock", "internal/race.Disable", "sync/atomic.CompareAndSwapInt32", "internal/race.Enable", "internal/race.Acquire", "(*internal/sync.Mutex).lockSlow", "internal/sync.runtime_canSpin", "internal/sync.runtime_doSpin", "internal/sync.throw", "internal/sync.runtime_nanotime", "internal/sync.runtime_SemacquireMutex", "sync/atomic.AddInt32", "(*internal/sync.Mutex).Unlock", "internal/race.ReleaseMerge", "(*internal/sync.Mutex).unlockSlow", "internal/sync.fatal", "internal/sync.runtime_Semrelease", "internal/bytealg.IndexByte"], unfollowed := true, recurses := true, apart := false }
def FnSameFuncSaid : Prop := fnSameFuncRow.holds Tryz.pinned (OpenSpec.ofChange fnSameFuncSpec)

/-- ITS FALSE NEIGHBOUR: 'it returns false'. Refute it at one input. -/
def fnSameFuncWrong : ChangeSpec := { name := "fnSameFunc", fn := fun _ => fun
  | [d1, d2] => { results := [.lit (.bool false)], args := [d1, d2] }
  | _ => none }
def FnSameFuncWrongFalsely : Prop := fnSameFuncRow.holds Tryz.pinned (OpenSpec.ofChange fnSameFuncWrong)

/-- 'laws.FnThereAndBack': WHATEVER THE INPUT: true; the input reads as it did. -/
def fnThereAndBackSpec : ChangeSpec := { name := "fnThereAndBack", fn := fun _ => fun
  | [d1, d2] => { results := [.lit (.bool true)], args := [d1, d2] }
  | _ => none }
def fnThereAndBackRow : OpenClaim := { program := "ytoedlabfiialfaagreat", sum := "a60f64ce84156e3510c1cbfd1bcdc34153c1125a2f617dbd054e644d81a5e7cf", func := "loop.example/pub-linetables/laws.FnThereAndBack", spec := "fnThereAndBack", inPlace := ["(*internal/sync.Mutex).Lock", "internal/race.Disable", "sync/atomic.CompareAndSwapInt32", "internal/race.Enable", "internal/race.Acquire", "(*internal/sync.Mutex).lockSlow", "internal/sync.runtime_canSpin", "internal/sync.runtime_doSpin", "internal/sync.throw", "internal/sync.runtime_nanotime", "internal/sync.runtime_SemacquireMutex", "sync/atomic.AddInt32", "(*internal/sync.Mutex).Unlock", "internal/race.ReleaseMerge", "(*internal/sync.Mutex).unlockSlow", "internal/sync.fatal", "internal/sync.runtime_Semrelease", "internal/bytealg.IndexByte"], unfollowed := true, recurses := true, apart := false }
def FnThereAndBackSaid : Prop := fnThereAndBackRow.holds Tryz.pinned (OpenSpec.ofChange fnThereAndBackSpec)

/-- ITS FALSE NEIGHBOUR: 'it returns false'. Refute it at one input. -/
def fnThereAndBackWrong : ChangeSpec := { name := "fnThereAndBack", fn := fun _ => fun
  | [d1, d2] => { results := [.lit (.bool false)], args := [d1, d2] }
  | _ => none }
def FnThereAndBackWrongFalsely : Prop := fnThereAndBackRow.holds Tryz.pinned (OpenSpec.ofChange fnThereAndBackWrong)

/- THE SECOND FORM. 'bulk': how many values and letters a reading holds, each counted each time it is reached (what is shared counts as often as it is met; a slice's spare places count too). A statement '..UptoSaid' is the law's where the arguments, and the package variables that the reading takes, are together of bulk at most 1048576: NARROWER than '..Said'. Prove '..Said' where nothing that the law and all that it calls make is longer than what came in: it says more and counts as full. Else prove '..UptoSaid'. A law counts once. -/
mutual
def uptoBulk {H : Type} : DataW H → Nat
  | .lit (.string bytes) => bytes.length + 1
  | .lit _ => 1
  | .nil => 1
  | .ptr d => uptoBulk d + 1
  | .slice elems spare => uptoBulkAll elems + uptoBulkAll spare + 1
  | .agg parts => uptoBulkAll parts + 1
  | .iface _ d => uptoBulk d + 1
  | .map entries => uptoBulkEntries entries + 1
  | .held _ => 1
def uptoBulkAll {H : Type} : List (DataW H) → Nat
  | [] => 0
  | d :: r => uptoBulk d + uptoBulkAll r
def uptoBulkEntries {H : Type} : List (Lit × DataW H) → Nat
  | [] => 0
  | x :: r => uptoBulkEntry x + uptoBulkEntries r
def uptoBulkEntry {H : Type} : Lit × DataW H → Nat
  | (.string bytes, d) => bytes.length + uptoBulk d + 1
  | (_, d) => uptoBulk d + 1
 end
def uptoSmall : (H : Type) → List (DataW H) → Bool := fun _ ds => decide (uptoBulkAll ds ≤ 1048576)
def OpenSpec.upto (s : _root_.Go.ChangeSpec) : _root_.Go.OpenSpec := { _root_.Go.OpenSpec.ofChange s with cond := some uptoSmall }

/-- 'laws.FnExactLine', WHERE WHAT IT READS IS OF BULK AT MOST 1048576: true; the input reads as it did. -/
def fnExactLineUptoRow : OpenClaim := { program := "ytoedlabfiialfaagreat", sum := "a60f64ce84156e3510c1cbfd1bcdc34153c1125a2f617dbd054e644d81a5e7cf", func := "loop.example/pub-linetables/laws.FnExactLine", spec := "fnExactLine", inPlace := ["(*internal/sync.Mutex).Lock", "internal/race.Disable", "sync/atomic.CompareAndSwapInt32", "internal/race.Enable", "internal/race.Acquire", "(*internal/sync.Mutex).lockSlow", "internal/sync.runtime_canSpin", "internal/sync.runtime_doSpin", "internal/sync.throw", "internal/sync.runtime_nanotime", "internal/sync.runtime_SemacquireMutex", "sync/atomic.AddInt32", "(*internal/sync.Mutex).Unlock", "internal/race.ReleaseMerge", "(*internal/sync.Mutex).unlockSlow", "internal/sync.fatal", "internal/sync.runtime_Semrelease", "internal/bytealg.IndexByte"], unfollowed := true, recurses := true, apart := false, narrowed := true }
def FnExactLineUptoSaid : Prop := fnExactLineUptoRow.holds Tryz.pinned (OpenSpec.upto fnExactLineSpec)

/-- 'laws.FnForms', WHERE WHAT IT READS IS OF BULK AT MOST 1048576: true; the input reads as it did. -/
def fnFormsUptoRow : OpenClaim := { program := "ytoedlabfiialfaagreat", sum := "a60f64ce84156e3510c1cbfd1bcdc34153c1125a2f617dbd054e644d81a5e7cf", func := "loop.example/pub-linetables/laws.FnForms", spec := "fnForms", inPlace := ["(*internal/sync.Mutex).Lock", "internal/race.Disable", "sync/atomic.CompareAndSwapInt32", "internal/race.Enable", "internal/race.Acquire", "(*internal/sync.Mutex).lockSlow", "internal/sync.runtime_canSpin", "internal/sync.runtime_doSpin", "internal/sync.throw", "internal/sync.runtime_nanotime", "internal/sync.runtime_SemacquireMutex", "sync/atomic.AddInt32", "(*internal/sync.Mutex).Unlock", "internal/race.ReleaseMerge", "(*internal/sync.Mutex).unlockSlow", "internal/sync.fatal", "internal/sync.runtime_Semrelease", "internal/bytealg.IndexByte"], unfollowed := true, recurses := true, apart := false, narrowed := true }
def FnFormsUptoSaid : Prop := fnFormsUptoRow.holds Tryz.pinned (OpenSpec.upto fnFormsSpec)

/-- 'laws.FnExactPlace', WHERE WHAT IT READS IS OF BULK AT MOST 1048576: true; the input reads as it did. -/
def fnExactPlaceUptoRow : OpenClaim := { program := "ytoedlabfiialfaagreat", sum := "a60f64ce84156e3510c1cbfd1bcdc34153c1125a2f617dbd054e644d81a5e7cf", func := "loop.example/pub-linetables/laws.FnExactPlace", spec := "fnExactPlace", inPlace := ["(*internal/sync.Mutex).Lock", "internal/race.Disable", "sync/atomic.CompareAndSwapInt32", "internal/race.Enable", "internal/race.Acquire", "(*internal/sync.Mutex).lockSlow", "internal/sync.runtime_canSpin", "internal/sync.runtime_doSpin", "internal/sync.throw", "internal/sync.runtime_nanotime", "internal/sync.runtime_SemacquireMutex", "sync/atomic.AddInt32", "(*internal/sync.Mutex).Unlock", "internal/race.ReleaseMerge", "(*internal/sync.Mutex).unlockSlow", "internal/sync.fatal", "internal/sync.runtime_Semrelease", "internal/bytealg.IndexByte"], unfollowed := true, recurses := true, apart := false, narrowed := true }
def FnExactPlaceUptoSaid : Prop := fnExactPlaceUptoRow.holds Tryz.pinned (OpenSpec.upto fnExactPlaceSpec)

/-- 'laws.FnSameFunc', WHERE WHAT IT READS IS OF BULK AT MOST 1048576: true; the input reads as it did. -/
def fnSameFuncUptoRow : OpenClaim := { program := "ytoedlabfiialfaagreat", sum := "a60f64ce84156e3510c1cbfd1bcdc34153c1125a2f617dbd054e644d81a5e7cf", func := "loop.example/pub-linetables/laws.FnSameFunc", spec := "fnSameFunc", inPlace := ["(*internal/sync.Mutex).Lock", "internal/race.Disable", "sync/atomic.CompareAndSwapInt32", "internal/race.Enable", "internal/race.Acquire", "(*internal/sync.Mutex).lockSlow", "internal/sync.runtime_canSpin", "internal/sync.runtime_doSpin", "internal/sync.throw", "internal/sync.runtime_nanotime", "internal/sync.runtime_SemacquireMutex", "sync/atomic.AddInt32", "(*internal/sync.Mutex).Unlock", "internal/race.ReleaseMerge", "(*internal/sync.Mutex).unlockSlow", "internal/sync.fatal", "internal/sync.runtime_Semrelease", "internal/bytealg.IndexByte"], unfollowed := true, recurses := true, apart := false, narrowed := true }
def FnSameFuncUptoSaid : Prop := fnSameFuncUptoRow.holds Tryz.pinned (OpenSpec.upto fnSameFuncSpec)

/-- 'laws.FnThereAndBack', WHERE WHAT IT READS IS OF BULK AT MOST 1048576: true; the input reads as it did. -/
def fnThereAndBackUptoRow : OpenClaim := { program := "ytoedlabfiialfaagreat", sum := "a60f64ce84156e3510c1cbfd1bcdc34153c1125a2f617dbd054e644d81a5e7cf", func := "loop.example/pub-linetables/laws.FnThereAndBack", spec := "fnThereAndBack", inPlace := ["(*internal/sync.Mutex).Lock", "internal/race.Disable", "sync/atomic.CompareAndSwapInt32", "internal/race.Enable", "internal/race.Acquire", "(*internal/sync.Mutex).lockSlow", "internal/sync.runtime_canSpin", "internal/sync.runtime_doSpin", "internal/sync.throw", "internal/sync.runtime_nanotime", "internal/sync.runtime_SemacquireMutex", "sync/atomic.AddInt32", "(*internal/sync.Mutex).Unlock", "internal/race.ReleaseMerge", "(*internal/sync.Mutex).unlockSlow", "internal/sync.fatal", "internal/sync.runtime_Semrelease", "internal/bytealg.IndexByte"], unfollowed := true, recurses := true, apart := false, narrowed := true }
def FnThereAndBackUptoSaid : Prop := fnThereAndBackUptoRow.holds Tryz.pinned (OpenSpec.upto fnThereAndBackSpec)

end Rows
end Go.Proofs.YtoedlabfiialfaaGreat
