/-
  No cell of these rows narrows 'for every input' (looked for: loops, veiled, ifaces, maps, wideKeys, modest, calm, conditions, laid).
  DERIVED. THE GIVEN ROWS OF THIS SEAT. 5 by the template 'for every input the law returns true; each argument reads behind the call as it read before'; 0 by the template 'total and deterministic' (their statements: YbulkctjgTotals.lean).
  GIVEN WITH THE SEED: the statements are not yours to turn. If you find one false, say at which input.
  Laid BY PROGRAM, IN A SANDBOX (cutbox-rows.mjs): the forced cells as the released guide's own fill.sh prints them over the translation a118d3c0a56c5f19… (all of the seat's roots in one cut). By AI agents, Wed Nov 11 2026. No macro, syntax, notation, axiom, sorry.
-/
import Derived.Test.YbulkctjgChecked
import GoSem.Claim
import GoSem.ClaimJoined
import GoSem.ClaimMapViews
import Derived.JoinedTies
import Derived.KernelRfl
namespace Go.Proofs.Ybulkctjg
/- THE CELL 'sum', in the pinned program and in every row, IS THE sha256 OF THE DUMP (.gsa) THAT YbulkctjgProg.lean LOADS. Nothing in Lean hashes anything: it is a label: what it is worth is what the hold of that sum in a sandbox is worth. -/
noncomputable def Yba.pinned : Pinned := { name := "ybulkctjg", sum := "a118d3c0a56c5f1953de0e15f0dc6faa56a6a7c83dc3b3f498f2c30332b940fd", checked := Yba.checked }
namespace Rows
def none {H : Type} : Left H := { results := [], args := [] }

/-- 'schedule.LawS4751ANewest': WHATEVER THE INPUT: true; the input reads as it did. -/
def lawS4751ANewestSpec : ChangeSpec := { name := "lawS4751ANewest", fn := fun _ => fun
  | [d1, d2, d3, d4] => { results := [.lit (.bool true)], args := [d1, d2, d3, d4] }
  | _ => none }
def lawS4751ANewestRow : OpenClaim := { program := "ybulkctjg", sum := "a118d3c0a56c5f1953de0e15f0dc6faa56a6a7c83dc3b3f498f2c30332b940fd", func := "example.com/tributary/tributary/internal/schedule.LawS4751ANewest", spec := "lawS4751ANewest", unfollowed := true, recurses := true, plainKeys := false, apart := false }
def LawS4751ANewestSaid : Prop := lawS4751ANewestRow.holds Yba.pinned (OpenSpec.ofChange lawS4751ANewestSpec)

/-- ITS FALSE NEIGHBOUR: 'it returns false'. Refute it at one input. -/
def lawS4751ANewestWrong : ChangeSpec := { name := "lawS4751ANewest", fn := fun _ => fun
  | [d1, d2, d3, d4] => { results := [.lit (.bool false)], args := [d1, d2, d3, d4] }
  | _ => none }
def LawS4751ANewestWrongFalsely : Prop := lawS4751ANewestRow.holds Yba.pinned (OpenSpec.ofChange lawS4751ANewestWrong)

/-- 'history.LawS4751BStandIn': WHATEVER THE INPUT: true; the input reads as it did. -/
def lawS4751BStandInSpec : ChangeSpec := { name := "lawS4751BStandIn", fn := fun _ => fun
  | [d1, d2, d3, d4, d5, d6] => { results := [.lit (.bool true)], args := [d1, d2, d3, d4, d5, d6] }
  | _ => none }
def lawS4751BStandInRow : OpenClaim := { program := "ybulkctjg", sum := "a118d3c0a56c5f1953de0e15f0dc6faa56a6a7c83dc3b3f498f2c30332b940fd", func := "example.com/tributary/tributary/internal/history.LawS4751BStandIn", spec := "lawS4751BStandIn", inPlace := ["(*internal/sync.Mutex).Lock", "internal/race.Disable", "sync/atomic.CompareAndSwapInt32", "internal/race.Enable", "internal/race.Acquire", "(*internal/sync.Mutex).lockSlow", "internal/sync.runtime_canSpin", "internal/sync.runtime_doSpin", "internal/sync.throw", "internal/sync.runtime_nanotime", "internal/sync.runtime_SemacquireMutex", "sync/atomic.AddInt32", "(*internal/sync.Mutex).Unlock", "internal/race.ReleaseMerge", "(*internal/sync.Mutex).unlockSlow", "internal/sync.fatal", "internal/sync.runtime_Semrelease", "(*internal/sync.Mutex).TryLock"], unfollowed := true, recurses := true, plainKeys := false, apart := false }
def LawS4751BStandInSaid : Prop := lawS4751BStandInRow.holds Yba.pinned (OpenSpec.ofChange lawS4751BStandInSpec)

/-- ITS FALSE NEIGHBOUR: 'it returns false'. Refute it at one input. -/
def lawS4751BStandInWrong : ChangeSpec := { name := "lawS4751BStandIn", fn := fun _ => fun
  | [d1, d2, d3, d4, d5, d6] => { results := [.lit (.bool false)], args := [d1, d2, d3, d4, d5, d6] }
  | _ => none }
def LawS4751BStandInWrongFalsely : Prop := lawS4751BStandInRow.holds Yba.pinned (OpenSpec.ofChange lawS4751BStandInWrong)

/-- 'history.LawS4751BSameState': WHATEVER THE INPUT: true; the input reads as it did. -/
def lawS4751BSameStateSpec : ChangeSpec := { name := "lawS4751BSameState", fn := fun _ => fun
  | [d1, d2] => { results := [.lit (.bool true)], args := [d1, d2] }
  | _ => none }
def lawS4751BSameStateRow : OpenClaim := { program := "ybulkctjg", sum := "a118d3c0a56c5f1953de0e15f0dc6faa56a6a7c83dc3b3f498f2c30332b940fd", func := "example.com/tributary/tributary/internal/history.LawS4751BSameState", spec := "lawS4751BSameState", inPlace := ["(*internal/sync.Mutex).Lock", "internal/race.Disable", "sync/atomic.CompareAndSwapInt32", "internal/race.Enable", "internal/race.Acquire", "(*internal/sync.Mutex).lockSlow", "internal/sync.runtime_canSpin", "internal/sync.runtime_doSpin", "internal/sync.throw", "internal/sync.runtime_nanotime", "internal/sync.runtime_SemacquireMutex", "sync/atomic.AddInt32", "(*internal/sync.Mutex).Unlock", "internal/race.ReleaseMerge", "(*internal/sync.Mutex).unlockSlow", "internal/sync.fatal", "internal/sync.runtime_Semrelease", "(*internal/sync.Mutex).TryLock"], unfollowed := true, recurses := true, plainKeys := false, apart := false }
def LawS4751BSameStateSaid : Prop := lawS4751BSameStateRow.holds Yba.pinned (OpenSpec.ofChange lawS4751BSameStateSpec)

/-- ITS FALSE NEIGHBOUR: 'it returns false'. Refute it at one input. -/
def lawS4751BSameStateWrong : ChangeSpec := { name := "lawS4751BSameState", fn := fun _ => fun
  | [d1, d2] => { results := [.lit (.bool false)], args := [d1, d2] }
  | _ => none }
def LawS4751BSameStateWrongFalsely : Prop := lawS4751BSameStateRow.holds Yba.pinned (OpenSpec.ofChange lawS4751BSameStateWrong)

/-- 'vsm.LawS4751CExact': WHATEVER THE INPUT: true; the input reads as it did. -/
def lawS4751CExactSpec : ChangeSpec := { name := "lawS4751CExact", fn := fun _ => fun
  | [d1, d2, d3] => { results := [.lit (.bool true)], args := [d1, d2, d3] }
  | _ => none }
def lawS4751CExactRow : OpenClaim := { program := "ybulkctjg", sum := "a118d3c0a56c5f1953de0e15f0dc6faa56a6a7c83dc3b3f498f2c30332b940fd", func := "example.com/tributary/tributary/internal/vsm.LawS4751CExact", spec := "lawS4751CExact", inPlace := ["internal/abi.NoEscape"], plainKeys := false, apart := false }
def LawS4751CExactSaid : Prop := lawS4751CExactRow.holds Yba.pinned (OpenSpec.ofChange lawS4751CExactSpec)

/-- ITS FALSE NEIGHBOUR: 'it returns false'. Refute it at one input. -/
def lawS4751CExactWrong : ChangeSpec := { name := "lawS4751CExact", fn := fun _ => fun
  | [d1, d2, d3] => { results := [.lit (.bool false)], args := [d1, d2, d3] }
  | _ => none }
def LawS4751CExactWrongFalsely : Prop := lawS4751CExactRow.holds Yba.pinned (OpenSpec.ofChange lawS4751CExactWrong)

/-- 'vsm.LawS4751CNote': WHATEVER THE INPUT: true; the input reads as it did. -/
def lawS4751CNoteSpec : ChangeSpec := { name := "lawS4751CNote", fn := fun _ => fun
  | [d1, d2] => { results := [.lit (.bool true)], args := [d1, d2] }
  | _ => none }
def lawS4751CNoteRow : OpenClaim := { program := "ybulkctjg", sum := "a118d3c0a56c5f1953de0e15f0dc6faa56a6a7c83dc3b3f498f2c30332b940fd", func := "example.com/tributary/tributary/internal/vsm.LawS4751CNote", spec := "lawS4751CNote", inPlace := ["internal/abi.NoEscape"], plainKeys := false, apart := false }
def LawS4751CNoteSaid : Prop := lawS4751CNoteRow.holds Yba.pinned (OpenSpec.ofChange lawS4751CNoteSpec)

/-- ITS FALSE NEIGHBOUR: 'it returns false'. Refute it at one input. -/
def lawS4751CNoteWrong : ChangeSpec := { name := "lawS4751CNote", fn := fun _ => fun
  | [d1, d2] => { results := [.lit (.bool false)], args := [d1, d2] }
  | _ => none }
def LawS4751CNoteWrongFalsely : Prop := lawS4751CNoteRow.holds Yba.pinned (OpenSpec.ofChange lawS4751CNoteWrong)

end Rows
end Go.Proofs.Ybulkctjg
