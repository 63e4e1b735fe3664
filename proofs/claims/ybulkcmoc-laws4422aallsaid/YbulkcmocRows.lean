/-
  No cell of these rows narrows 'for every input' (looked for: loops, veiled, ifaces, maps, wideKeys, modest, calm, conditions, laid).
  DERIVED. THE GIVEN ROWS OF THIS SEAT. 4 by the template 'for every input the law returns true; each argument reads behind the call as it read before'; 0 by the template 'total and deterministic' (their statements: YbulkcmocTotals.lean).
  GIVEN WITH THE SEED: the statements are not yours to turn. If you find one false, say at which input.
  Laid BY PROGRAM, IN A SANDBOX (cutbox-rows.mjs): the forced cells as the released guide's own fill.sh prints them over the translation 27841a8957166e24… (all of the seat's roots in one cut). By AI agents, Wed Nov 11 2026. No macro, syntax, notation, axiom, sorry.
-/
import Derived.Test.YbulkcmocChecked
import GoSem.Claim
import GoSem.ClaimJoined
import GoSem.ClaimMapViews
import Derived.JoinedTies
import Derived.KernelRfl
namespace Go.Proofs.Ybulkcmoc
/- THE CELL 'sum', in the pinned program and in every row, IS THE sha256 OF THE DUMP (.gsa) THAT YbulkcmocProg.lean LOADS. Nothing in Lean hashes anything: it is a label: what it is worth is what the hold of that sum in a sandbox is worth. -/
noncomputable def Yba.pinned : Pinned := { name := "ybulkcmoc", sum := "27841a8957166e24d013237330c7ad8be8f73ec23e936e32abd5e1a201178639", checked := Yba.checked }
namespace Rows
def none {H : Type} : Left H := { results := [], args := [] }

/-- 'node.LawS4422AAll': WHATEVER THE INPUT: true; the input reads as it did. -/
def lawS4422AAllSpec : ChangeSpec := { name := "lawS4422AAll", fn := fun _ => fun
  | [d1, d2] => { results := [.lit (.bool true)], args := [d1, d2] }
  | _ => none }
def lawS4422AAllRow : OpenClaim := { program := "ybulkcmoc", sum := "27841a8957166e24d013237330c7ad8be8f73ec23e936e32abd5e1a201178639", func := "example.com/ballotine/ballotine/internal/node.LawS4422AAll", spec := "lawS4422AAll", inPlace := ["(*internal/sync.Mutex).Lock", "internal/race.Disable", "sync/atomic.CompareAndSwapInt32", "internal/race.Enable", "internal/race.Acquire", "(*internal/sync.Mutex).lockSlow", "internal/sync.runtime_canSpin", "internal/sync.runtime_doSpin", "internal/sync.throw", "internal/sync.runtime_nanotime", "internal/sync.runtime_SemacquireMutex", "sync/atomic.AddInt32", "(*internal/sync.Mutex).Unlock", "internal/race.ReleaseMerge", "(*internal/sync.Mutex).unlockSlow", "internal/sync.fatal", "internal/sync.runtime_Semrelease"], apart := false }
def LawS4422AAllSaid : Prop := lawS4422AAllRow.holds Yba.pinned (OpenSpec.ofChange lawS4422AAllSpec)

/-- ITS FALSE NEIGHBOUR: 'it returns false'. Refute it at one input. -/
def lawS4422AAllWrong : ChangeSpec := { name := "lawS4422AAll", fn := fun _ => fun
  | [d1, d2] => { results := [.lit (.bool false)], args := [d1, d2] }
  | _ => none }
def LawS4422AAllWrongFalsely : Prop := lawS4422AAllRow.holds Yba.pinned (OpenSpec.ofChange lawS4422AAllWrong)

/-- 'coalesce.LawS4422BStores': WHATEVER THE INPUT: true; the input reads as it did. -/
def lawS4422BStoresSpec : ChangeSpec := { name := "lawS4422BStores", fn := fun _ => fun
  | [d1, d2, d3, d4, d5] => { results := [.lit (.bool true)], args := [d1, d2, d3, d4, d5] }
  | _ => none }
def lawS4422BStoresRow : OpenClaim := { program := "ybulkcmoc", sum := "27841a8957166e24d013237330c7ad8be8f73ec23e936e32abd5e1a201178639", func := "example.com/ballotine/ballotine/internal/coalesce.LawS4422BStores", spec := "lawS4422BStores", inPlace := ["(*internal/sync.Mutex).TryLock", "internal/race.Disable", "internal/race.Enable", "sync/atomic.CompareAndSwapInt32", "internal/race.Acquire", "(*internal/sync.Mutex).Unlock", "internal/race.ReleaseMerge", "sync/atomic.AddInt32", "(*internal/sync.Mutex).unlockSlow", "internal/sync.fatal", "internal/sync.runtime_Semrelease"], unfollowed := true, recurses := true, apart := false }
def LawS4422BStoresSaid : Prop := lawS4422BStoresRow.holds Yba.pinned (OpenSpec.ofChange lawS4422BStoresSpec)

/-- ITS FALSE NEIGHBOUR: 'it returns false'. Refute it at one input. -/
def lawS4422BStoresWrong : ChangeSpec := { name := "lawS4422BStores", fn := fun _ => fun
  | [d1, d2, d3, d4, d5] => { results := [.lit (.bool false)], args := [d1, d2, d3, d4, d5] }
  | _ => none }
def LawS4422BStoresWrongFalsely : Prop := lawS4422BStoresRow.holds Yba.pinned (OpenSpec.ofChange lawS4422BStoresWrong)

/-- 'coalesce.LawS4422BZeroFuncs': WHATEVER THE INPUT: true; the input reads as it did. -/
def lawS4422BZeroFuncsSpec : ChangeSpec := { name := "lawS4422BZeroFuncs", fn := fun _ => fun
  | [d] => { results := [.lit (.bool true)], args := [d] }
  | _ => none }
def lawS4422BZeroFuncsRow : OpenClaim := { program := "ybulkcmoc", sum := "27841a8957166e24d013237330c7ad8be8f73ec23e936e32abd5e1a201178639", func := "example.com/ballotine/ballotine/internal/coalesce.LawS4422BZeroFuncs", spec := "lawS4422BZeroFuncs", inPlace := ["(*internal/sync.Mutex).TryLock", "internal/race.Disable", "internal/race.Enable", "sync/atomic.CompareAndSwapInt32", "internal/race.Acquire", "(*internal/sync.Mutex).Unlock", "internal/race.ReleaseMerge", "sync/atomic.AddInt32", "(*internal/sync.Mutex).unlockSlow", "internal/sync.fatal", "internal/sync.runtime_Semrelease"], apart := false }
def LawS4422BZeroFuncsSaid : Prop := lawS4422BZeroFuncsRow.holds Yba.pinned (OpenSpec.ofChange lawS4422BZeroFuncsSpec)

/-- ITS FALSE NEIGHBOUR: 'it returns false'. Refute it at one input. -/
def lawS4422BZeroFuncsWrong : ChangeSpec := { name := "lawS4422BZeroFuncs", fn := fun _ => fun
  | [d] => { results := [.lit (.bool false)], args := [d] }
  | _ => none }
def LawS4422BZeroFuncsWrongFalsely : Prop := lawS4422BZeroFuncsRow.holds Yba.pinned (OpenSpec.ofChange lawS4422BZeroFuncsWrong)

/-- 'paxos.LawS4422CSets': WHATEVER THE INPUT: true; the input reads as it did. -/
def lawS4422CSetsSpec : ChangeSpec := { name := "lawS4422CSets", fn := fun _ => fun
  | [d1, d2] => { results := [.lit (.bool true)], args := [d1, d2] }
  | _ => none }
def lawS4422CSetsRow : OpenClaim := { program := "ybulkcmoc", sum := "27841a8957166e24d013237330c7ad8be8f73ec23e936e32abd5e1a201178639", func := "example.com/ballotine/ballotine/internal/paxos.LawS4422CSets", spec := "lawS4422CSets", apart := false }
def LawS4422CSetsSaid : Prop := lawS4422CSetsRow.holds Yba.pinned (OpenSpec.ofChange lawS4422CSetsSpec)

/-- ITS FALSE NEIGHBOUR: 'it returns false'. Refute it at one input. -/
def lawS4422CSetsWrong : ChangeSpec := { name := "lawS4422CSets", fn := fun _ => fun
  | [d1, d2] => { results := [.lit (.bool false)], args := [d1, d2] }
  | _ => none }
def LawS4422CSetsWrongFalsely : Prop := lawS4422CSetsRow.holds Yba.pinned (OpenSpec.ofChange lawS4422CSetsWrong)

end Rows
end Go.Proofs.Ybulkcmoc
