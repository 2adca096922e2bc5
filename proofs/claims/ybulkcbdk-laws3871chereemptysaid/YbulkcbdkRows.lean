/-
  No cell of these rows narrows 'for every input' (looked for: loops, veiled, ifaces, maps, wideKeys, modest, calm, conditions, laid).
  DERIVED. THE GIVEN ROWS OF THIS SEAT. 2 by the template 'for every input the law returns true; each argument reads behind the call as it read before'; 0 by the template 'total and deterministic' (their statements: YbulkcbdkTotals.lean).
  GIVEN WITH THE SEED: the statements are not yours to turn. If you find one false, say at which input.
  Laid BY PROGRAM, IN A SANDBOX (cutbox-rows.mjs): the forced cells as the released guide's own fill.sh prints them over the translation 54100a0d7c252610… (all of the seat's roots in one cut). By AI agents, Wed Nov 11 2026. No macro, syntax, notation, axiom, sorry.
-/
import Derived.Test.YbulkcbdkChecked
import GoSem.Claim
import GoSem.ClaimJoined
import GoSem.ClaimMapViews
import Derived.JoinedTies
import Derived.KernelRfl
namespace Go.Proofs.Ybulkcbdk
/- THE CELL 'sum', in the pinned program and in every row, IS THE sha256 OF THE DUMP (.gsa) THAT YbulkcbdkProg.lean LOADS. Nothing in Lean hashes anything: it is a label: what it is worth is what the hold of that sum in a sandbox is worth. -/
noncomputable def Yba.pinned : Pinned := { name := "ybulkcbdk", sum := "54100a0d7c252610f22e68bc1a4488c69d0d6f06c4f766742890d22187112261", checked := Yba.checked }
namespace Rows
def none {H : Type} : Left H := { results := [], args := [] }

/-- 'load.LawS3871CExact': WHATEVER THE INPUT: true; the input reads as it did. -/
def lawS3871CExactSpec : ChangeSpec := { name := "lawS3871CExact", fn := fun _ => fun
  | [d1, d2] => { results := [.lit (.bool true)], args := [d1, d2] }
  | _ => none }
def lawS3871CExactRow : OpenClaim := { program := "ybulkcbdk", sum := "54100a0d7c252610f22e68bc1a4488c69d0d6f06c4f766742890d22187112261", func := "example.com/inherit-deadline/inherit-deadline/internal/load.LawS3871CExact", spec := "lawS3871CExact", inPlace := ["internal/abi.NoEscape", "internal/bytealg.MakeNoZero"], apart := false }
def LawS3871CExactSaid : Prop := lawS3871CExactRow.holds Yba.pinned (OpenSpec.ofChange lawS3871CExactSpec)

/-- ITS FALSE NEIGHBOUR: 'it returns false'. Refute it at one input. -/
def lawS3871CExactWrong : ChangeSpec := { name := "lawS3871CExact", fn := fun _ => fun
  | [d1, d2] => { results := [.lit (.bool false)], args := [d1, d2] }
  | _ => none }
def LawS3871CExactWrongFalsely : Prop := lawS3871CExactRow.holds Yba.pinned (OpenSpec.ofChange lawS3871CExactWrong)

/-- 'load.LawS3871CHereEmpty': WHATEVER THE INPUT: true; the input reads as it did. -/
def lawS3871CHereEmptySpec : ChangeSpec := { name := "lawS3871CHereEmpty", fn := fun _ => fun
  | [d] => { results := [.lit (.bool true)], args := [d] }
  | _ => none }
def lawS3871CHereEmptyRow : OpenClaim := { program := "ybulkcbdk", sum := "54100a0d7c252610f22e68bc1a4488c69d0d6f06c4f766742890d22187112261", func := "example.com/inherit-deadline/inherit-deadline/internal/load.LawS3871CHereEmpty", spec := "lawS3871CHereEmpty", inPlace := ["internal/abi.NoEscape", "internal/bytealg.MakeNoZero"], apart := false }
def LawS3871CHereEmptySaid : Prop := lawS3871CHereEmptyRow.holds Yba.pinned (OpenSpec.ofChange lawS3871CHereEmptySpec)

/-- ITS FALSE NEIGHBOUR: 'it returns false'. Refute it at one input. -/
def lawS3871CHereEmptyWrong : ChangeSpec := { name := "lawS3871CHereEmpty", fn := fun _ => fun
  | [d] => { results := [.lit (.bool false)], args := [d] }
  | _ => none }
def LawS3871CHereEmptyWrongFalsely : Prop := lawS3871CHereEmptyRow.holds Yba.pinned (OpenSpec.ofChange lawS3871CHereEmptyWrong)

end Rows
end Go.Proofs.Ybulkcbdk
