/-
  No cell of these rows narrows 'for every input' (looked for: loops, veiled, ifaces, maps, wideKeys, modest, calm, conditions, laid).
  DERIVED. THE GIVEN ROWS OF THIS SEAT. 4 by the template 'for every input the law returns true; each argument reads behind the call as it read before'; 0 by the template 'total and deterministic' (their statements: YbulkcqswTotals.lean).
  GIVEN WITH THE SEED: the statements are not yours to turn. If you find one false, say at which input.
  Laid BY PROGRAM, IN A SANDBOX (cutbox-rows.mjs): the forced cells as the released guide's own fill.sh prints them over the translation 30e99d40160b159e… (all of the seat's roots in one cut). By AI agents, Wed Nov 11 2026. No macro, syntax, notation, axiom, sorry.
-/
import Derived.Test.YbulkcqswChecked
import GoSem.Claim
import GoSem.ClaimJoined
import GoSem.ClaimMapViews
import Derived.JoinedTies
import Derived.KernelRfl
namespace Go.Proofs.Ybulkcqsw
/- THE CELL 'sum', in the pinned program and in every row, IS THE sha256 OF THE DUMP (.gsa) THAT YbulkcqswProg.lean LOADS. Nothing in Lean hashes anything: it is a label: what it is worth is what the hold of that sum in a sandbox is worth. -/
noncomputable def Yba.pinned : Pinned := { name := "ybulkcqsw", sum := "30e99d40160b159ed6eb124a1875b66154e9a7d3f6b2140b357562efab342bef", checked := Yba.checked }
namespace Rows
def none {H : Type} : Left H := { results := [], args := [] }

/-- 'register.LawS4624AModel': WHATEVER THE INPUT: true; the input reads as it did. -/
def lawS4624AModelSpec : ChangeSpec := { name := "lawS4624AModel", fn := fun _ => fun
  | [d] => { results := [.lit (.bool true)], args := [d] }
  | _ => none }
def lawS4624AModelRow : OpenClaim := { program := "ybulkcqsw", sum := "30e99d40160b159ed6eb124a1875b66154e9a7d3f6b2140b357562efab342bef", func := "example.com/roamkeeper/roamkeeper/internal/register.LawS4624AModel", spec := "lawS4624AModel", unfollowed := true, recurses := true, plainKeys := false, apart := false }
def LawS4624AModelSaid : Prop := lawS4624AModelRow.holds Yba.pinned (OpenSpec.ofChange lawS4624AModelSpec)

/-- ITS FALSE NEIGHBOUR: 'it returns false'. Refute it at one input. -/
def lawS4624AModelWrong : ChangeSpec := { name := "lawS4624AModel", fn := fun _ => fun
  | [d] => { results := [.lit (.bool false)], args := [d] }
  | _ => none }
def LawS4624AModelWrongFalsely : Prop := lawS4624AModelRow.holds Yba.pinned (OpenSpec.ofChange lawS4624AModelWrong)

/-- 'register.LawS4624ABuilt': WHATEVER THE INPUT: true; the input reads as it did. -/
def lawS4624ABuiltSpec : ChangeSpec := { name := "lawS4624ABuilt", fn := fun _ => fun
  | [d1, d2] => { results := [.lit (.bool true)], args := [d1, d2] }
  | _ => none }
def lawS4624ABuiltRow : OpenClaim := { program := "ybulkcqsw", sum := "30e99d40160b159ed6eb124a1875b66154e9a7d3f6b2140b357562efab342bef", func := "example.com/roamkeeper/roamkeeper/internal/register.LawS4624ABuilt", spec := "lawS4624ABuilt", unfollowed := true, recurses := true, plainKeys := false, apart := false }
def LawS4624ABuiltSaid : Prop := lawS4624ABuiltRow.holds Yba.pinned (OpenSpec.ofChange lawS4624ABuiltSpec)

/-- ITS FALSE NEIGHBOUR: 'it returns false'. Refute it at one input. -/
def lawS4624ABuiltWrong : ChangeSpec := { name := "lawS4624ABuilt", fn := fun _ => fun
  | [d1, d2] => { results := [.lit (.bool false)], args := [d1, d2] }
  | _ => none }
def LawS4624ABuiltWrongFalsely : Prop := lawS4624ABuiltRow.holds Yba.pinned (OpenSpec.ofChange lawS4624ABuiltWrong)

/-- 'store.LawS4624CFailed': WHATEVER THE INPUT: true; the input reads as it did. -/
def lawS4624CFailedSpec : ChangeSpec := { name := "lawS4624CFailed", fn := fun _ => fun
  | [d1, d2, d3] => { results := [.lit (.bool true)], args := [d1, d2, d3] }
  | _ => none }
def lawS4624CFailedRow : OpenClaim := { program := "ybulkcqsw", sum := "30e99d40160b159ed6eb124a1875b66154e9a7d3f6b2140b357562efab342bef", func := "example.com/roamkeeper/roamkeeper/internal/store.LawS4624CFailed", spec := "lawS4624CFailed", plainKeys := false, apart := false }
def LawS4624CFailedSaid : Prop := lawS4624CFailedRow.holds Yba.pinned (OpenSpec.ofChange lawS4624CFailedSpec)

/-- ITS FALSE NEIGHBOUR: 'it returns false'. Refute it at one input. -/
def lawS4624CFailedWrong : ChangeSpec := { name := "lawS4624CFailed", fn := fun _ => fun
  | [d1, d2, d3] => { results := [.lit (.bool false)], args := [d1, d2, d3] }
  | _ => none }
def LawS4624CFailedWrongFalsely : Prop := lawS4624CFailedRow.holds Yba.pinned (OpenSpec.ofChange lawS4624CFailedWrong)

/-- 'store.LawS4624CErr': WHATEVER THE INPUT: true; the input reads as it did. -/
def lawS4624CErrSpec : ChangeSpec := { name := "lawS4624CErr", fn := fun _ => fun
  | [d1, d2, d3] => { results := [.lit (.bool true)], args := [d1, d2, d3] }
  | _ => none }
def lawS4624CErrRow : OpenClaim := { program := "ybulkcqsw", sum := "30e99d40160b159ed6eb124a1875b66154e9a7d3f6b2140b357562efab342bef", func := "example.com/roamkeeper/roamkeeper/internal/store.LawS4624CErr", spec := "lawS4624CErr", inPlace := ["(*internal/sync.Mutex).Lock", "internal/race.Disable", "sync/atomic.CompareAndSwapInt32", "internal/race.Enable", "internal/race.Acquire", "(*internal/sync.Mutex).lockSlow", "internal/sync.runtime_canSpin", "internal/sync.runtime_doSpin", "internal/sync.throw", "internal/sync.runtime_nanotime", "internal/sync.runtime_SemacquireMutex", "sync/atomic.AddInt32", "(*internal/sync.Mutex).Unlock", "internal/race.ReleaseMerge", "(*internal/sync.Mutex).unlockSlow", "internal/sync.fatal", "internal/sync.runtime_Semrelease"], plainKeys := false, apart := false }
def LawS4624CErrSaid : Prop := lawS4624CErrRow.holds Yba.pinned (OpenSpec.ofChange lawS4624CErrSpec)

/-- ITS FALSE NEIGHBOUR: 'it returns false'. Refute it at one input. -/
def lawS4624CErrWrong : ChangeSpec := { name := "lawS4624CErr", fn := fun _ => fun
  | [d1, d2, d3] => { results := [.lit (.bool false)], args := [d1, d2, d3] }
  | _ => none }
def LawS4624CErrWrongFalsely : Prop := lawS4624CErrRow.holds Yba.pinned (OpenSpec.ofChange lawS4624CErrWrong)

end Rows
end Go.Proofs.Ybulkcqsw
