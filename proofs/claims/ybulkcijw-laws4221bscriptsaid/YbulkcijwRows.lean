/-
  No cell of these rows narrows 'for every input' (looked for: loops, veiled, ifaces, maps, wideKeys, modest, calm, conditions, laid).
  DERIVED. THE GIVEN ROWS OF THIS SEAT. 2 by the template 'for every input the law returns true; each argument reads behind the call as it read before'; 0 by the template 'total and deterministic' (their statements: YbulkcijwTotals.lean).
  GIVEN WITH THE SEED: the statements are not yours to turn. If you find one false, say at which input.
  Laid BY PROGRAM, IN A SANDBOX (cutbox-rows.mjs): the forced cells as the released guide's own fill.sh prints them over the translation ab3f7e0298963f98… (all of the seat's roots in one cut). By AI agents, Wed Nov 11 2026. No macro, syntax, notation, axiom, sorry.
-/
import Derived.Test.YbulkcijwChecked
import GoSem.Claim
import GoSem.ClaimJoined
import GoSem.ClaimMapViews
import Derived.JoinedTies
import Derived.KernelRfl
namespace Go.Proofs.Ybulkcijw
/- THE CELL 'sum', in the pinned program and in every row, IS THE sha256 OF THE DUMP (.gsa) THAT YbulkcijwProg.lean LOADS. Nothing in Lean hashes anything: it is a label: what it is worth is what the hold of that sum in a sandbox is worth. -/
noncomputable def Yba.pinned : Pinned := { name := "ybulkcijw", sum := "ab3f7e0298963f98c98270c4ae424e540af8a9debd2c5fbdf978e86839b30b80", checked := Yba.checked }
namespace Rows
def none {H : Type} : Left H := { results := [], args := [] }

/-- 'agents.LawS4221BTake': WHATEVER THE INPUT: true; the input reads as it did. -/
def lawS4221BTakeSpec : ChangeSpec := { name := "lawS4221BTake", fn := fun _ => fun
  | [d1, d2, d3] => { results := [.lit (.bool true)], args := [d1, d2, d3] }
  | _ => none }
def lawS4221BTakeRow : OpenClaim := { program := "ybulkcijw", sum := "ab3f7e0298963f98c98270c4ae424e540af8a9debd2c5fbdf978e86839b30b80", func := "example.com/knotwatch/knotwatch/agents.LawS4221BTake", spec := "lawS4221BTake", apart := false }
def LawS4221BTakeSaid : Prop := lawS4221BTakeRow.holds Yba.pinned (OpenSpec.ofChange lawS4221BTakeSpec)

/-- ITS FALSE NEIGHBOUR: 'it returns false'. Refute it at one input. -/
def lawS4221BTakeWrong : ChangeSpec := { name := "lawS4221BTake", fn := fun _ => fun
  | [d1, d2, d3] => { results := [.lit (.bool false)], args := [d1, d2, d3] }
  | _ => none }
def LawS4221BTakeWrongFalsely : Prop := lawS4221BTakeRow.holds Yba.pinned (OpenSpec.ofChange lawS4221BTakeWrong)

/-- 'agents.LawS4221BScript': WHATEVER THE INPUT: true; the input reads as it did. -/
def lawS4221BScriptSpec : ChangeSpec := { name := "lawS4221BScript", fn := fun _ => fun
  | [d] => { results := [.lit (.bool true)], args := [d] }
  | _ => none }
def lawS4221BScriptRow : OpenClaim := { program := "ybulkcijw", sum := "ab3f7e0298963f98c98270c4ae424e540af8a9debd2c5fbdf978e86839b30b80", func := "example.com/knotwatch/knotwatch/agents.LawS4221BScript", spec := "lawS4221BScript", inPlace := ["internal/abi.NoEscape", "internal/bytealg.MakeNoZero", "(*sync.RWMutex).Lock", "internal/race.Read", "internal/race.Disable", "(*internal/sync.Mutex).Lock", "sync/atomic.CompareAndSwapInt32", "internal/race.Enable", "internal/race.Acquire", "(*internal/sync.Mutex).lockSlow", "internal/sync.runtime_canSpin", "internal/sync.runtime_doSpin", "internal/sync.throw", "internal/sync.runtime_nanotime", "internal/sync.runtime_SemacquireMutex", "sync/atomic.AddInt32", "sync.runtime_SemacquireRWMutex", "(*sync.RWMutex).Unlock", "internal/race.Release", "internal/race.ReleaseMerge", "sync.fatal", "sync.runtime_Semrelease", "(*internal/sync.Mutex).Unlock", "(*internal/sync.Mutex).unlockSlow", "internal/sync.fatal", "internal/sync.runtime_Semrelease", "(*sync.RWMutex).RLock", "sync.runtime_SemacquireRWMutexR", "(*sync.RWMutex).RUnlock", "(*sync.RWMutex).rUnlockSlow"], apart := false }
def LawS4221BScriptSaid : Prop := lawS4221BScriptRow.holds Yba.pinned (OpenSpec.ofChange lawS4221BScriptSpec)

/-- ITS FALSE NEIGHBOUR: 'it returns false'. Refute it at one input. -/
def lawS4221BScriptWrong : ChangeSpec := { name := "lawS4221BScript", fn := fun _ => fun
  | [d] => { results := [.lit (.bool false)], args := [d] }
  | _ => none }
def LawS4221BScriptWrongFalsely : Prop := lawS4221BScriptRow.holds Yba.pinned (OpenSpec.ofChange lawS4221BScriptWrong)

end Rows
end Go.Proofs.Ybulkcijw
