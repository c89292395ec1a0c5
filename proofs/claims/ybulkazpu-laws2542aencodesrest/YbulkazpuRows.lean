/-
  No cell of these rows narrows 'for every input' (looked for: loops, veiled, ifaces, maps, wideKeys, modest, calm, conditions, laid).
  DERIVED. THE GIVEN ROWS OF THIS SEAT. 4 by the template 'for every input the law returns true; each argument reads behind the call as it read before'; 0 by the template 'total and deterministic' (their statements: YbulkazpuTotals.lean).
  GIVEN WITH THE SEED: the statements are not yours to turn. If you find one false, say at which input.
  Laid BY PROGRAM, IN A SANDBOX (cutbox-rows.mjs): the forced cells as the released guide's own fill.sh prints them over the translation b08e15f31b03e337… (all of the seat's roots in one cut). By AI agents, Wed Nov 11 2026. No macro, syntax, notation, axiom, sorry.
-/
import Derived.Test.YbulkazpuChecked
import GoSem.Claim
import GoSem.ClaimJoined
import GoSem.ClaimMapViews
import Derived.JoinedTies
import Derived.KernelRfl
namespace Go.Proofs.Ybulkazpu
/- THE CELL 'sum', in the pinned program and in every row, IS THE sha256 OF THE DUMP (.gsa) THAT YbulkazpuProg.lean LOADS. Nothing in Lean hashes anything: it is a label: what it is worth is what the hold of that sum in a sandbox is worth. -/
noncomputable def Yba.pinned : Pinned := { name := "ybulkazpu", sum := "b08e15f31b03e337e2cdb598d3400fa7bc1f704e6d39373afc645f89529267f6", checked := Yba.checked }
namespace Rows
def none {H : Type} : Left H := { results := [], args := [] }

/-- 'byzantine.LawS2542ADropFirst': WHATEVER THE INPUT: true; the input reads as it did. -/
def lawS2542ADropFirstSpec : ChangeSpec := { name := "lawS2542ADropFirst", fn := fun _ => fun
  | [d] => { results := [.lit (.bool true)], args := [d] }
  | _ => none }
def lawS2542ADropFirstRow : OpenClaim := { program := "ybulkazpu", sum := "b08e15f31b03e337e2cdb598d3400fa7bc1f704e6d39373afc645f89529267f6", func := "example.com/thingstead/thingstead/pkg/byzantine.LawS2542ADropFirst", spec := "lawS2542ADropFirst", unfollowed := true, recurses := true, plainKeys := false, apart := false }
def LawS2542ADropFirstSaid : Prop := lawS2542ADropFirstRow.holds Yba.pinned (OpenSpec.ofChange lawS2542ADropFirstSpec)

/-- ITS FALSE NEIGHBOUR: 'it returns false'. Refute it at one input. -/
def lawS2542ADropFirstWrong : ChangeSpec := { name := "lawS2542ADropFirst", fn := fun _ => fun
  | [d] => { results := [.lit (.bool false)], args := [d] }
  | _ => none }
def LawS2542ADropFirstWrongFalsely : Prop := lawS2542ADropFirstRow.holds Yba.pinned (OpenSpec.ofChange lawS2542ADropFirstWrong)

/-- 'byzantine.LawS2542AEncodesRest': WHATEVER THE INPUT: true; the input reads as it did. -/
def lawS2542AEncodesRestSpec : ChangeSpec := { name := "lawS2542AEncodesRest", fn := fun _ => fun
  | [d1, d2] => { results := [.lit (.bool true)], args := [d1, d2] }
  | _ => none }
def lawS2542AEncodesRestRow : OpenClaim := { program := "ybulkazpu", sum := "b08e15f31b03e337e2cdb598d3400fa7bc1f704e6d39373afc645f89529267f6", func := "example.com/thingstead/thingstead/pkg/byzantine.LawS2542AEncodesRest", spec := "lawS2542AEncodesRest", unfollowed := true, recurses := true, plainKeys := false, apart := false }
def LawS2542AEncodesRestSaid : Prop := lawS2542AEncodesRestRow.holds Yba.pinned (OpenSpec.ofChange lawS2542AEncodesRestSpec)

/-- ITS FALSE NEIGHBOUR: 'it returns false'. Refute it at one input. -/
def lawS2542AEncodesRestWrong : ChangeSpec := { name := "lawS2542AEncodesRest", fn := fun _ => fun
  | [d1, d2] => { results := [.lit (.bool false)], args := [d1, d2] }
  | _ => none }
def LawS2542AEncodesRestWrongFalsely : Prop := lawS2542AEncodesRestRow.holds Yba.pinned (OpenSpec.ofChange lawS2542AEncodesRestWrong)

/-- 'node.LawS2542CTake': WHATEVER THE INPUT: true; the input reads as it did. -/
def lawS2542CTakeSpec : ChangeSpec := { name := "lawS2542CTake", fn := fun _ => fun
  | [d1, d2, d3] => { results := [.lit (.bool true)], args := [d1, d2, d3] }
  | _ => none }
def lawS2542CTakeRow : OpenClaim := { program := "ybulkazpu", sum := "b08e15f31b03e337e2cdb598d3400fa7bc1f704e6d39373afc645f89529267f6", func := "example.com/thingstead/thingstead/pkg/node.LawS2542CTake", spec := "lawS2542CTake", inPlace := ["(*internal/sync.Mutex).Lock", "internal/race.Disable", "sync/atomic.CompareAndSwapInt32", "internal/race.Enable", "internal/race.Acquire", "(*internal/sync.Mutex).lockSlow", "internal/sync.runtime_canSpin", "internal/sync.runtime_doSpin", "internal/sync.throw", "internal/sync.runtime_nanotime", "internal/sync.runtime_SemacquireMutex", "sync/atomic.AddInt32", "(*internal/sync.Mutex).Unlock", "internal/race.ReleaseMerge", "(*internal/sync.Mutex).unlockSlow", "internal/sync.fatal", "internal/sync.runtime_Semrelease", "(*internal/sync.Mutex).TryLock"], plainKeys := false, apart := false }
def LawS2542CTakeSaid : Prop := lawS2542CTakeRow.holds Yba.pinned (OpenSpec.ofChange lawS2542CTakeSpec)

/-- ITS FALSE NEIGHBOUR: 'it returns false'. Refute it at one input. -/
def lawS2542CTakeWrong : ChangeSpec := { name := "lawS2542CTake", fn := fun _ => fun
  | [d1, d2, d3] => { results := [.lit (.bool false)], args := [d1, d2, d3] }
  | _ => none }
def LawS2542CTakeWrongFalsely : Prop := lawS2542CTakeRow.holds Yba.pinned (OpenSpec.ofChange lawS2542CTakeWrong)

/-- 'node.LawS2542CTwice': WHATEVER THE INPUT: true; the input reads as it did. -/
def lawS2542CTwiceSpec : ChangeSpec := { name := "lawS2542CTwice", fn := fun _ => fun
  | [d] => { results := [.lit (.bool true)], args := [d] }
  | _ => none }
def lawS2542CTwiceRow : OpenClaim := { program := "ybulkazpu", sum := "b08e15f31b03e337e2cdb598d3400fa7bc1f704e6d39373afc645f89529267f6", func := "example.com/thingstead/thingstead/pkg/node.LawS2542CTwice", spec := "lawS2542CTwice", inPlace := ["(*internal/sync.Mutex).Lock", "internal/race.Disable", "sync/atomic.CompareAndSwapInt32", "internal/race.Enable", "internal/race.Acquire", "(*internal/sync.Mutex).lockSlow", "internal/sync.runtime_canSpin", "internal/sync.runtime_doSpin", "internal/sync.throw", "internal/sync.runtime_nanotime", "internal/sync.runtime_SemacquireMutex", "sync/atomic.AddInt32", "(*internal/sync.Mutex).Unlock", "internal/race.ReleaseMerge", "(*internal/sync.Mutex).unlockSlow", "internal/sync.fatal", "internal/sync.runtime_Semrelease"], plainKeys := false, apart := false }
def LawS2542CTwiceSaid : Prop := lawS2542CTwiceRow.holds Yba.pinned (OpenSpec.ofChange lawS2542CTwiceSpec)

/-- ITS FALSE NEIGHBOUR: 'it returns false'. Refute it at one input. -/
def lawS2542CTwiceWrong : ChangeSpec := { name := "lawS2542CTwice", fn := fun _ => fun
  | [d] => { results := [.lit (.bool false)], args := [d] }
  | _ => none }
def LawS2542CTwiceWrongFalsely : Prop := lawS2542CTwiceRow.holds Yba.pinned (OpenSpec.ofChange lawS2542CTwiceWrong)

end Rows
end Go.Proofs.Ybulkazpu
