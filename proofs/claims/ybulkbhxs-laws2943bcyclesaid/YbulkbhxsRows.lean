/-
  No cell of these rows narrows 'for every input' (looked for: loops, veiled, ifaces, maps, wideKeys, modest, calm, conditions, laid).
  DERIVED. THE GIVEN ROWS OF THIS SEAT. 2 by the template 'for every input the law returns true; each argument reads behind the call as it read before'; 0 by the template 'total and deterministic' (their statements: YbulkbhxsTotals.lean).
  GIVEN WITH THE SEED: the statements are not yours to turn. If you find one false, say at which input.
  Laid BY PROGRAM, IN A SANDBOX (cutbox-rows.mjs): the forced cells as the released guide's own fill.sh prints them over the translation f1af729f4d919c2f… (all of the seat's roots in one cut). By AI agents, Wed Nov 11 2026. No macro, syntax, notation, axiom, sorry.
-/
import Derived.Test.YbulkbhxsChecked
import GoSem.Claim
import GoSem.ClaimJoined
import GoSem.ClaimMapViews
import Derived.JoinedTies
import Derived.KernelRfl
namespace Go.Proofs.Ybulkbhxs
/- THE CELL 'sum', in the pinned program and in every row, IS THE sha256 OF THE DUMP (.gsa) THAT YbulkbhxsProg.lean LOADS. Nothing in Lean hashes anything: it is a label: what it is worth is what the hold of that sum in a sandbox is worth. -/
noncomputable def Yba.pinned : Pinned := { name := "ybulkbhxs", sum := "f1af729f4d919c2fe959c6333592f77b5593772209f4ef6fa9d8fae3206da406", checked := Yba.checked }
namespace Rows
def none {H : Type} : Left H := { results := [], args := [] }

/-- 'coyote-hill.LawS2943BClears': WHATEVER THE INPUT: true; the input reads as it did. -/
def lawS2943BClearsSpec : ChangeSpec := { name := "lawS2943BClears", fn := fun _ => fun
  | [d1, d2, d3, d4, d5] => { results := [.lit (.bool true)], args := [d1, d2, d3, d4, d5] }
  | _ => none }
def lawS2943BClearsRow : OpenClaim := { program := "ybulkbhxs", sum := "f1af729f4d919c2fe959c6333592f77b5593772209f4ef6fa9d8fae3206da406", func := "example.com/coyote-hill/coyote-hill.LawS2943BClears", spec := "lawS2943BClears", inPlace := ["(*internal/sync.Mutex).Lock", "internal/race.Disable", "sync/atomic.CompareAndSwapInt32", "internal/race.Enable", "internal/race.Acquire", "(*internal/sync.Mutex).lockSlow", "internal/sync.runtime_canSpin", "internal/sync.runtime_doSpin", "internal/sync.throw", "internal/sync.runtime_nanotime", "internal/sync.runtime_SemacquireMutex", "sync/atomic.AddInt32", "(*internal/sync.Mutex).Unlock", "internal/race.ReleaseMerge", "(*internal/sync.Mutex).unlockSlow", "internal/sync.fatal", "internal/sync.runtime_Semrelease"], apart := false }
def LawS2943BClearsSaid : Prop := lawS2943BClearsRow.holds Yba.pinned (OpenSpec.ofChange lawS2943BClearsSpec)

/-- ITS FALSE NEIGHBOUR: 'it returns false'. Refute it at one input. -/
def lawS2943BClearsWrong : ChangeSpec := { name := "lawS2943BClears", fn := fun _ => fun
  | [d1, d2, d3, d4, d5] => { results := [.lit (.bool false)], args := [d1, d2, d3, d4, d5] }
  | _ => none }
def LawS2943BClearsWrongFalsely : Prop := lawS2943BClearsRow.holds Yba.pinned (OpenSpec.ofChange lawS2943BClearsWrong)

/-- 'coyote-hill.LawS2943BCycle': WHATEVER THE INPUT: true; the input reads as it did. -/
def lawS2943BCycleSpec : ChangeSpec := { name := "lawS2943BCycle", fn := fun _ => fun
  | [d] => { results := [.lit (.bool true)], args := [d] }
  | _ => none }
def lawS2943BCycleRow : OpenClaim := { program := "ybulkbhxs", sum := "f1af729f4d919c2fe959c6333592f77b5593772209f4ef6fa9d8fae3206da406", func := "example.com/coyote-hill/coyote-hill.LawS2943BCycle", spec := "lawS2943BCycle", inPlace := ["(*internal/sync.Mutex).Lock", "internal/race.Disable", "sync/atomic.CompareAndSwapInt32", "internal/race.Enable", "internal/race.Acquire", "(*internal/sync.Mutex).lockSlow", "internal/sync.runtime_canSpin", "internal/sync.runtime_doSpin", "internal/sync.throw", "internal/sync.runtime_nanotime", "internal/sync.runtime_SemacquireMutex", "sync/atomic.AddInt32", "(*internal/sync.Mutex).Unlock", "internal/race.ReleaseMerge", "(*internal/sync.Mutex).unlockSlow", "internal/sync.fatal", "internal/sync.runtime_Semrelease"], apart := false }
def LawS2943BCycleSaid : Prop := lawS2943BCycleRow.holds Yba.pinned (OpenSpec.ofChange lawS2943BCycleSpec)

/-- ITS FALSE NEIGHBOUR: 'it returns false'. Refute it at one input. -/
def lawS2943BCycleWrong : ChangeSpec := { name := "lawS2943BCycle", fn := fun _ => fun
  | [d] => { results := [.lit (.bool false)], args := [d] }
  | _ => none }
def LawS2943BCycleWrongFalsely : Prop := lawS2943BCycleRow.holds Yba.pinned (OpenSpec.ofChange lawS2943BCycleWrong)

end Rows
end Go.Proofs.Ybulkbhxs
