/-
  No cell of these rows narrows 'for every input' (looked for: loops, veiled, ifaces, maps, wideKeys, modest, calm, conditions, laid).
  DERIVED. THE GIVEN ROWS OF THIS SEAT. 2 by the template 'for every input the law returns true; each argument reads behind the call as it read before'; 0 by the template 'total and deterministic' (their statements: YbulkccaoTotals.lean).
  GIVEN WITH THE SEED: the statements are not yours to turn. If you find one false, say at which input.
  Laid BY PROGRAM, IN A SANDBOX (cutbox-rows.mjs): the forced cells as the released guide's own fill.sh prints them over the translation ade83e15c8a30f5c… (all of the seat's roots in one cut). By AI agents, Wed Nov 11 2026. No macro, syntax, notation, axiom, sorry.
-/
import Derived.Test.YbulkccaoChecked
import GoSem.Claim
import GoSem.ClaimJoined
import GoSem.ClaimMapViews
import Derived.JoinedTies
import Derived.KernelRfl
namespace Go.Proofs.Ybulkccao
/- THE CELL 'sum', in the pinned program and in every row, IS THE sha256 OF THE DUMP (.gsa) THAT YbulkccaoProg.lean LOADS. Nothing in Lean hashes anything: it is a label: what it is worth is what the hold of that sum in a sandbox is worth. -/
noncomputable def Yba.pinned : Pinned := { name := "ybulkccao", sum := "ade83e15c8a30f5c57c6e08fbde005e0f61ce8ca492c28f6ceb2f18bedea91f3", checked := Yba.checked }
namespace Rows
def none {H : Type} : Left H := { results := [], args := [] }

/-- 'zonestore.LawS3914AOrder': WHATEVER THE INPUT: true; the input reads as it did. -/
def lawS3914AOrderSpec : ChangeSpec := { name := "lawS3914AOrder", fn := fun _ => fun
  | [d1, d2, d3, d4] => { results := [.lit (.bool true)], args := [d1, d2, d3, d4] }
  | _ => none }
def lawS3914AOrderRow : OpenClaim := { program := "ybulkccao", sum := "ade83e15c8a30f5c57c6e08fbde005e0f61ce8ca492c28f6ceb2f18bedea91f3", func := "example.com/zonecut/zonecut/internal/zonestore.LawS3914AOrder", spec := "lawS3914AOrder", inPlace := ["internal/abi.NoEscape", "internal/bytealg.MakeNoZero", "internal/bytealg.abigen_runtime_cmpstring"], unfollowed := true, recurses := true, apart := false }
def LawS3914AOrderSaid : Prop := lawS3914AOrderRow.holds Yba.pinned (OpenSpec.ofChange lawS3914AOrderSpec)

/-- ITS FALSE NEIGHBOUR: 'it returns false'. Refute it at one input. -/
def lawS3914AOrderWrong : ChangeSpec := { name := "lawS3914AOrder", fn := fun _ => fun
  | [d1, d2, d3, d4] => { results := [.lit (.bool false)], args := [d1, d2, d3, d4] }
  | _ => none }
def LawS3914AOrderWrongFalsely : Prop := lawS3914AOrderRow.holds Yba.pinned (OpenSpec.ofChange lawS3914AOrderWrong)

/-- 'zonestore.LawS3914AStop': WHATEVER THE INPUT: true; the input reads as it did. -/
def lawS3914AStopSpec : ChangeSpec := { name := "lawS3914AStop", fn := fun _ => fun
  | [d1, d2, d3] => { results := [.lit (.bool true)], args := [d1, d2, d3] }
  | _ => none }
def lawS3914AStopRow : OpenClaim := { program := "ybulkccao", sum := "ade83e15c8a30f5c57c6e08fbde005e0f61ce8ca492c28f6ceb2f18bedea91f3", func := "example.com/zonecut/zonecut/internal/zonestore.LawS3914AStop", spec := "lawS3914AStop", inPlace := ["internal/abi.NoEscape", "internal/bytealg.MakeNoZero", "internal/bytealg.abigen_runtime_cmpstring"], unfollowed := true, recurses := true, apart := false }
def LawS3914AStopSaid : Prop := lawS3914AStopRow.holds Yba.pinned (OpenSpec.ofChange lawS3914AStopSpec)

/-- ITS FALSE NEIGHBOUR: 'it returns false'. Refute it at one input. -/
def lawS3914AStopWrong : ChangeSpec := { name := "lawS3914AStop", fn := fun _ => fun
  | [d1, d2, d3] => { results := [.lit (.bool false)], args := [d1, d2, d3] }
  | _ => none }
def LawS3914AStopWrongFalsely : Prop := lawS3914AStopRow.holds Yba.pinned (OpenSpec.ofChange lawS3914AStopWrong)

end Rows
end Go.Proofs.Ybulkccao
