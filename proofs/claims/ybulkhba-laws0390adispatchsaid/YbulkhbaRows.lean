/-
  No cell of these rows narrows 'for every input' (looked for: loops, veiled, ifaces, maps, wideKeys, modest, calm, conditions, laid).
  DERIVED. THE GIVEN ROWS OF THIS SEAT. 7 by the template 'for every input the law returns true; each argument reads behind the call as it read before'; 0 by the template 'total and deterministic' (their statements: YbulkhbaTotals.lean).
  GIVEN WITH THE SEED: the statements are not yours to turn. If you find one false, say at which input.
  Laid BY PROGRAM, IN A SANDBOX (cutbox-rows.mjs): the forced cells as the released guide's own fill.sh prints them over the translation 3ab912e8286c2f10… (all of the seat's roots in one cut). By AI agents, Wed Nov 11 2026. No macro, syntax, notation, axiom, sorry.
-/
import Derived.Test.YbulkhbaChecked
import GoSem.Claim
import GoSem.ClaimJoined
import GoSem.ClaimMapViews
import Derived.JoinedTies
import Derived.KernelRfl
namespace Go.Proofs.Ybulkhba
/- THE CELL 'sum', in the pinned program and in every row, IS THE sha256 OF THE DUMP (.gsa) THAT YbulkhbaProg.lean LOADS. Nothing in Lean hashes anything: it is a label: what it is worth is what the hold of that sum in a sandbox is worth. -/
noncomputable def Yba.pinned : Pinned := { name := "ybulkhba", sum := "3ab912e8286c2f1086593d85c0d64445cb5034262402f4b8a23506151a86bbea", checked := Yba.checked }
namespace Rows
def none {H : Type} : Left H := { results := [], args := [] }

/-- 'serve.LawS0390AMark': WHATEVER THE INPUT: true; the input reads as it did. -/
def lawS0390AMarkSpec : ChangeSpec := { name := "lawS0390AMark", fn := fun _ => fun
  | [d1, d2, d3] => { results := [.lit (.bool true)], args := [d1, d2, d3] }
  | _ => none }
def lawS0390AMarkRow : OpenClaim := { program := "ybulkhba", sum := "3ab912e8286c2f1086593d85c0d64445cb5034262402f4b8a23506151a86bbea", func := "example.com/fairlane/fairlane/serve.LawS0390AMark", spec := "lawS0390AMark", inPlace := ["(*internal/sync.Mutex).Lock", "internal/race.Disable", "sync/atomic.CompareAndSwapInt32", "internal/race.Enable", "internal/race.Acquire", "(*internal/sync.Mutex).lockSlow", "internal/sync.runtime_canSpin", "internal/sync.runtime_doSpin", "internal/sync.throw", "internal/sync.runtime_nanotime", "internal/sync.runtime_SemacquireMutex", "sync/atomic.AddInt32", "(*internal/sync.Mutex).Unlock", "internal/race.ReleaseMerge", "(*internal/sync.Mutex).unlockSlow", "internal/sync.fatal", "internal/sync.runtime_Semrelease"], unfollowed := true, recurses := true, apart := false }
def LawS0390AMarkSaid : Prop := lawS0390AMarkRow.holds Yba.pinned (OpenSpec.ofChange lawS0390AMarkSpec)

/-- ITS FALSE NEIGHBOUR: 'it returns false'. Refute it at one input. -/
def lawS0390AMarkWrong : ChangeSpec := { name := "lawS0390AMark", fn := fun _ => fun
  | [d1, d2, d3] => { results := [.lit (.bool false)], args := [d1, d2, d3] }
  | _ => none }
def LawS0390AMarkWrongFalsely : Prop := lawS0390AMarkRow.holds Yba.pinned (OpenSpec.ofChange lawS0390AMarkWrong)

/-- 'serve.LawS0390ADispatch': WHATEVER THE INPUT: true; the input reads as it did. -/
def lawS0390ADispatchSpec : ChangeSpec := { name := "lawS0390ADispatch", fn := fun _ => fun
  | [d1, d2, d3, d4, d5, d6, d7, d8] => { results := [.lit (.bool true)], args := [d1, d2, d3, d4, d5, d6, d7, d8] }
  | _ => none }
def lawS0390ADispatchRow : OpenClaim := { program := "ybulkhba", sum := "3ab912e8286c2f1086593d85c0d64445cb5034262402f4b8a23506151a86bbea", func := "example.com/fairlane/fairlane/serve.LawS0390ADispatch", spec := "lawS0390ADispatch", inPlace := ["(*internal/sync.Mutex).Lock", "internal/race.Disable", "sync/atomic.CompareAndSwapInt32", "internal/race.Enable", "internal/race.Acquire", "(*internal/sync.Mutex).lockSlow", "internal/sync.runtime_canSpin", "internal/sync.runtime_doSpin", "internal/sync.throw", "internal/sync.runtime_nanotime", "internal/sync.runtime_SemacquireMutex", "sync/atomic.AddInt32", "(*internal/sync.Mutex).Unlock", "internal/race.ReleaseMerge", "(*internal/sync.Mutex).unlockSlow", "internal/sync.fatal", "internal/sync.runtime_Semrelease"], unfollowed := true, recurses := true, apart := false }
def LawS0390ADispatchSaid : Prop := lawS0390ADispatchRow.holds Yba.pinned (OpenSpec.ofChange lawS0390ADispatchSpec)

/-- ITS FALSE NEIGHBOUR: 'it returns false'. Refute it at one input. -/
def lawS0390ADispatchWrong : ChangeSpec := { name := "lawS0390ADispatch", fn := fun _ => fun
  | [d1, d2, d3, d4, d5, d6, d7, d8] => { results := [.lit (.bool false)], args := [d1, d2, d3, d4, d5, d6, d7, d8] }
  | _ => none }
def LawS0390ADispatchWrongFalsely : Prop := lawS0390ADispatchRow.holds Yba.pinned (OpenSpec.ofChange lawS0390ADispatchWrong)

/-- 'sched.LawS0390BAllOnceInOrder': WHATEVER THE INPUT: true; the input reads as it did. -/
def lawS0390BAllOnceInOrderSpec : ChangeSpec := { name := "lawS0390BAllOnceInOrder", fn := fun _ => fun
  | [d1, d2, d3, d4, d5] => { results := [.lit (.bool true)], args := [d1, d2, d3, d4, d5] }
  | _ => none }
def lawS0390BAllOnceInOrderRow : OpenClaim := { program := "ybulkhba", sum := "3ab912e8286c2f1086593d85c0d64445cb5034262402f4b8a23506151a86bbea", func := "example.com/fairlane/fairlane/sched.LawS0390BAllOnceInOrder", spec := "lawS0390BAllOnceInOrder", unfollowed := true, recurses := true, apart := false }
def LawS0390BAllOnceInOrderSaid : Prop := lawS0390BAllOnceInOrderRow.holds Yba.pinned (OpenSpec.ofChange lawS0390BAllOnceInOrderSpec)

/-- ITS FALSE NEIGHBOUR: 'it returns false'. Refute it at one input. -/
def lawS0390BAllOnceInOrderWrong : ChangeSpec := { name := "lawS0390BAllOnceInOrder", fn := fun _ => fun
  | [d1, d2, d3, d4, d5] => { results := [.lit (.bool false)], args := [d1, d2, d3, d4, d5] }
  | _ => none }
def LawS0390BAllOnceInOrderWrongFalsely : Prop := lawS0390BAllOnceInOrderRow.holds Yba.pinned (OpenSpec.ofChange lawS0390BAllOnceInOrderWrong)

/-- 'sched.LawS0390BRoundRobin': WHATEVER THE INPUT: true; the input reads as it did. -/
def lawS0390BRoundRobinSpec : ChangeSpec := { name := "lawS0390BRoundRobin", fn := fun _ => fun
  | [d1, d2] => { results := [.lit (.bool true)], args := [d1, d2] }
  | _ => none }
def lawS0390BRoundRobinRow : OpenClaim := { program := "ybulkhba", sum := "3ab912e8286c2f1086593d85c0d64445cb5034262402f4b8a23506151a86bbea", func := "example.com/fairlane/fairlane/sched.LawS0390BRoundRobin", spec := "lawS0390BRoundRobin", unfollowed := true, recurses := true, apart := false }
def LawS0390BRoundRobinSaid : Prop := lawS0390BRoundRobinRow.holds Yba.pinned (OpenSpec.ofChange lawS0390BRoundRobinSpec)

/-- ITS FALSE NEIGHBOUR: 'it returns false'. Refute it at one input. -/
def lawS0390BRoundRobinWrong : ChangeSpec := { name := "lawS0390BRoundRobin", fn := fun _ => fun
  | [d1, d2] => { results := [.lit (.bool false)], args := [d1, d2] }
  | _ => none }
def LawS0390BRoundRobinWrongFalsely : Prop := lawS0390BRoundRobinRow.holds Yba.pinned (OpenSpec.ofChange lawS0390BRoundRobinWrong)

/-- 'sched.LawS0390BZeroCostWholeLines': WHATEVER THE INPUT: true; the input reads as it did. -/
def lawS0390BZeroCostWholeLinesSpec : ChangeSpec := { name := "lawS0390BZeroCostWholeLines", fn := fun _ => fun
  | [d1, d2] => { results := [.lit (.bool true)], args := [d1, d2] }
  | _ => none }
def lawS0390BZeroCostWholeLinesRow : OpenClaim := { program := "ybulkhba", sum := "3ab912e8286c2f1086593d85c0d64445cb5034262402f4b8a23506151a86bbea", func := "example.com/fairlane/fairlane/sched.LawS0390BZeroCostWholeLines", spec := "lawS0390BZeroCostWholeLines", unfollowed := true, recurses := true, apart := false }
def LawS0390BZeroCostWholeLinesSaid : Prop := lawS0390BZeroCostWholeLinesRow.holds Yba.pinned (OpenSpec.ofChange lawS0390BZeroCostWholeLinesSpec)

/-- ITS FALSE NEIGHBOUR: 'it returns false'. Refute it at one input. -/
def lawS0390BZeroCostWholeLinesWrong : ChangeSpec := { name := "lawS0390BZeroCostWholeLines", fn := fun _ => fun
  | [d1, d2] => { results := [.lit (.bool false)], args := [d1, d2] }
  | _ => none }
def LawS0390BZeroCostWholeLinesWrongFalsely : Prop := lawS0390BZeroCostWholeLinesRow.holds Yba.pinned (OpenSpec.ofChange lawS0390BZeroCostWholeLinesWrong)

/-- 'sched.LawS0390CModel': WHATEVER THE INPUT: true; the input reads as it did. -/
def lawS0390CModelSpec : ChangeSpec := { name := "lawS0390CModel", fn := fun _ => fun
  | [d1, d2] => { results := [.lit (.bool true)], args := [d1, d2] }
  | _ => none }
def lawS0390CModelRow : OpenClaim := { program := "ybulkhba", sum := "3ab912e8286c2f1086593d85c0d64445cb5034262402f4b8a23506151a86bbea", func := "example.com/fairlane/fairlane/sched.LawS0390CModel", spec := "lawS0390CModel", apart := false }
def LawS0390CModelSaid : Prop := lawS0390CModelRow.holds Yba.pinned (OpenSpec.ofChange lawS0390CModelSpec)

/-- ITS FALSE NEIGHBOUR: 'it returns false'. Refute it at one input. -/
def lawS0390CModelWrong : ChangeSpec := { name := "lawS0390CModel", fn := fun _ => fun
  | [d1, d2] => { results := [.lit (.bool false)], args := [d1, d2] }
  | _ => none }
def LawS0390CModelWrongFalsely : Prop := lawS0390CModelRow.holds Yba.pinned (OpenSpec.ofChange lawS0390CModelWrong)

/-- 'sched.LawS0390CStrict': WHATEVER THE INPUT: true; the input reads as it did. -/
def lawS0390CStrictSpec : ChangeSpec := { name := "lawS0390CStrict", fn := fun _ => fun
  | [d1, d2] => { results := [.lit (.bool true)], args := [d1, d2] }
  | _ => none }
def lawS0390CStrictRow : OpenClaim := { program := "ybulkhba", sum := "3ab912e8286c2f1086593d85c0d64445cb5034262402f4b8a23506151a86bbea", func := "example.com/fairlane/fairlane/sched.LawS0390CStrict", spec := "lawS0390CStrict", apart := false }
def LawS0390CStrictSaid : Prop := lawS0390CStrictRow.holds Yba.pinned (OpenSpec.ofChange lawS0390CStrictSpec)

/-- ITS FALSE NEIGHBOUR: 'it returns false'. Refute it at one input. -/
def lawS0390CStrictWrong : ChangeSpec := { name := "lawS0390CStrict", fn := fun _ => fun
  | [d1, d2] => { results := [.lit (.bool false)], args := [d1, d2] }
  | _ => none }
def LawS0390CStrictWrongFalsely : Prop := lawS0390CStrictRow.holds Yba.pinned (OpenSpec.ofChange lawS0390CStrictWrong)

end Rows
end Go.Proofs.Ybulkhba
