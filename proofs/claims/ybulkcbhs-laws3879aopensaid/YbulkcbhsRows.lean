/-
  No cell of these rows narrows 'for every input' (looked for: loops, veiled, ifaces, maps, wideKeys, modest, calm, conditions, laid).
  DERIVED. THE GIVEN ROWS OF THIS SEAT. 3 by the template 'for every input the law returns true; each argument reads behind the call as it read before'; 0 by the template 'total and deterministic' (their statements: YbulkcbhsTotals.lean).
  GIVEN WITH THE SEED: the statements are not yours to turn. If you find one false, say at which input.
  Laid BY PROGRAM, IN A SANDBOX (cutbox-rows.mjs): the forced cells as the released guide's own fill.sh prints them over the translation 2d10022fafb22f58… (all of the seat's roots in one cut). By AI agents, Wed Nov 11 2026. No macro, syntax, notation, axiom, sorry.
-/
import Derived.Test.YbulkcbhsChecked
import GoSem.Claim
import GoSem.ClaimJoined
import GoSem.ClaimMapViews
import Derived.JoinedTies
import Derived.KernelRfl
namespace Go.Proofs.Ybulkcbhs
/- THE CELL 'sum', in the pinned program and in every row, IS THE sha256 OF THE DUMP (.gsa) THAT YbulkcbhsProg.lean LOADS. Nothing in Lean hashes anything: it is a label: what it is worth is what the hold of that sum in a sandbox is worth. -/
noncomputable def Yba.pinned : Pinned := { name := "ybulkcbhs", sum := "2d10022fafb22f5816c8cde3b06913c1a9feb8c32af029fa039b7286530b7c63", checked := Yba.checked }
namespace Rows
def none {H : Type} : Left H := { results := [], args := [] }

/-- 'lock-arbiter.LawS3879AOpen': WHATEVER THE INPUT: true; the input reads as it did. -/
def lawS3879AOpenSpec : ChangeSpec := { name := "lawS3879AOpen", fn := fun _ => fun
  | [d1, d2, d3, d4, d5] => { results := [.lit (.bool true)], args := [d1, d2, d3, d4, d5] }
  | _ => none }
def lawS3879AOpenRow : OpenClaim := { program := "ybulkcbhs", sum := "2d10022fafb22f5816c8cde3b06913c1a9feb8c32af029fa039b7286530b7c63", func := "example.com/lock-arbiter/lock-arbiter.LawS3879AOpen", spec := "lawS3879AOpen", inPlace := ["(*internal/sync.Mutex).Lock", "internal/race.Disable", "sync/atomic.CompareAndSwapInt32", "internal/race.Enable", "internal/race.Acquire", "(*internal/sync.Mutex).lockSlow", "internal/sync.runtime_canSpin", "internal/sync.runtime_doSpin", "internal/sync.throw", "internal/sync.runtime_nanotime", "internal/sync.runtime_SemacquireMutex", "sync/atomic.AddInt32", "(*internal/sync.Mutex).Unlock", "internal/race.ReleaseMerge", "(*internal/sync.Mutex).unlockSlow", "internal/sync.fatal", "internal/sync.runtime_Semrelease", "(*internal/sync.Mutex).TryLock"], plainKeys := false, apart := false }
def LawS3879AOpenSaid : Prop := lawS3879AOpenRow.holds Yba.pinned (OpenSpec.ofChange lawS3879AOpenSpec)

/-- ITS FALSE NEIGHBOUR: 'it returns false'. Refute it at one input. -/
def lawS3879AOpenWrong : ChangeSpec := { name := "lawS3879AOpen", fn := fun _ => fun
  | [d1, d2, d3, d4, d5] => { results := [.lit (.bool false)], args := [d1, d2, d3, d4, d5] }
  | _ => none }
def LawS3879AOpenWrongFalsely : Prop := lawS3879AOpenRow.holds Yba.pinned (OpenSpec.ofChange lawS3879AOpenWrong)

/-- 'httphead.LawS3879CModel': WHATEVER THE INPUT: true; the input reads as it did. -/
def lawS3879CModelSpec : ChangeSpec := { name := "lawS3879CModel", fn := fun _ => fun
  | [d1, d2] => { results := [.lit (.bool true)], args := [d1, d2] }
  | _ => none }
def lawS3879CModelRow : OpenClaim := { program := "ybulkcbhs", sum := "2d10022fafb22f5816c8cde3b06913c1a9feb8c32af029fa039b7286530b7c63", func := "example.com/lock-arbiter/lock-arbiter/internal/httphead.LawS3879CModel", spec := "lawS3879CModel", plainKeys := false, apart := false }
def LawS3879CModelSaid : Prop := lawS3879CModelRow.holds Yba.pinned (OpenSpec.ofChange lawS3879CModelSpec)

/-- ITS FALSE NEIGHBOUR: 'it returns false'. Refute it at one input. -/
def lawS3879CModelWrong : ChangeSpec := { name := "lawS3879CModel", fn := fun _ => fun
  | [d1, d2] => { results := [.lit (.bool false)], args := [d1, d2] }
  | _ => none }
def LawS3879CModelWrongFalsely : Prop := lawS3879CModelRow.holds Yba.pinned (OpenSpec.ofChange lawS3879CModelWrong)

/-- 'httphead.LawS3879CRoundTrip': WHATEVER THE INPUT: true; the input reads as it did. -/
def lawS3879CRoundTripSpec : ChangeSpec := { name := "lawS3879CRoundTrip", fn := fun _ => fun
  | [d1, d2, d3] => { results := [.lit (.bool true)], args := [d1, d2, d3] }
  | _ => none }
def lawS3879CRoundTripRow : OpenClaim := { program := "ybulkcbhs", sum := "2d10022fafb22f5816c8cde3b06913c1a9feb8c32af029fa039b7286530b7c63", func := "example.com/lock-arbiter/lock-arbiter/internal/httphead.LawS3879CRoundTrip", spec := "lawS3879CRoundTrip", plainKeys := false, apart := false }
def LawS3879CRoundTripSaid : Prop := lawS3879CRoundTripRow.holds Yba.pinned (OpenSpec.ofChange lawS3879CRoundTripSpec)

/-- ITS FALSE NEIGHBOUR: 'it returns false'. Refute it at one input. -/
def lawS3879CRoundTripWrong : ChangeSpec := { name := "lawS3879CRoundTrip", fn := fun _ => fun
  | [d1, d2, d3] => { results := [.lit (.bool false)], args := [d1, d2, d3] }
  | _ => none }
def LawS3879CRoundTripWrongFalsely : Prop := lawS3879CRoundTripRow.holds Yba.pinned (OpenSpec.ofChange lawS3879CRoundTripWrong)

end Rows
end Go.Proofs.Ybulkcbhs
