/-
  NARROWER THAN 'FOR EVERY INPUT', by the rows' own cells (each row's printed sentence says how): LawS3875BNilPasses: ifaces, laid · LawS3875BMatch: ifaces, laid · LawS3875BWrongTag: ifaces, laid.
  DERIVED. THE GIVEN ROWS OF THIS SEAT. 5 by the template 'for every input the law returns true; each argument reads behind the call as it read before'; 0 by the template 'total and deterministic' (their statements: YbulkcbfoFmtTotals.lean).
  GIVEN WITH THE SEED: the statements are not yours to turn. If you find one false, say at which input.
  Laid BY PROGRAM, IN A SANDBOX (cutbox-rows.mjs): the forced cells as the released guide's own fill.sh prints them over the translation 098fde1b106bdf3d… (all of the seat's roots in one cut). By AI agents, Wed Nov 11 2026. No macro, syntax, notation, axiom, sorry.
-/
import Derived.Test.YbulkcbfoFmtChecked
import GoSem.Claim
import GoSem.ClaimJoined
import GoSem.ClaimMapViews
import Derived.JoinedTies
import Derived.KernelRfl
namespace Go.Proofs.YbulkcbfoFmt
/- THE CELL 'sum', in the pinned program and in every row, IS THE sha256 OF THE DUMP (.gsa) THAT YbulkcbfoFmtProg.lean LOADS. Nothing in Lean hashes anything: it is a label: what it is worth is what the hold of that sum in a sandbox is worth. -/
noncomputable def Ybaf.pinned : Pinned := { name := "ybulkcbfofmt", sum := "098fde1b106bdf3dbfc4149b158b50e990ee950d81c7f1e9ddf611b825be0d29", checked := Ybaf.checked }
namespace Rows
def none {H : Type} : Left H := { results := [], args := [] }

/- WHAT THE LISTED PACKAGE-LEVEL VARIABLES READ AS WHEN THE CALL BEGINS. Each datum BY PROGRAM (the guide's laid-datum.mjs) off the statement by which the dump's own 'gosem.cut.vars' lays the variable. In a bare row this is a premise. The card (YbulkcbfoFmtCards.lean) ties it to the program's text. -/
def laid_example_com_chainwright_chainwright_internal_der_errTruncated {H : Type} : DataW H := .iface "*errors.errorString" (.ptr (.agg [.lit (.string [108, 101, 110, 103, 116, 104, 32, 114, 117, 110, 115, 32, 112, 97, 115, 116, 32, 116, 104, 101, 32, 101, 110, 100, 32, 111, 102, 32, 116, 104, 101, 32, 100, 97, 116, 97])]))

/-- 'chainwright.LawS3875AModel': WHATEVER THE INPUT: true; the input reads as it did. -/
def lawS3875AModelSpec : ChangeSpec := { name := "lawS3875AModel", fn := fun _ => fun
  | [d1, d2] => { results := [.lit (.bool true)], args := [d1, d2] }
  | _ => none }
def lawS3875AModelRow : OpenClaim := { program := "ybulkcbfofmt", sum := "098fde1b106bdf3dbfc4149b158b50e990ee950d81c7f1e9ddf611b825be0d29", func := "example.com/chainwright/chainwright.LawS3875AModel", spec := "lawS3875AModel", stops := ["fmt.errorf"], inPlace := ["math/big.lshVU", "math/big.addVV", "math/bits.Add64", "math/big.subVV", "math/bits.Sub64", "fmt.errorf"], recurses := true, apart := false }
/-- NO THEOREM (fmt's text is open here; it may be false): for the released tool's asking of the row's closed facts alone. THE STATEMENT IS 'LawS3875AModelToldSaid' (YbulkcbfoFmtCards.lean). -/
def LawS3875AModelFormAsk : Prop := lawS3875AModelRow.holds Ybaf.pinned (OpenSpec.ofChange lawS3875AModelSpec)

/-- ITS FALSE NEIGHBOUR: 'it returns false'. Refute it at one input. -/
def lawS3875AModelWrong : ChangeSpec := { name := "lawS3875AModel", fn := fun _ => fun
  | [d1, d2] => { results := [.lit (.bool false)], args := [d1, d2] }
  | _ => none }
def LawS3875AModelWrongFormAsk : Prop := lawS3875AModelRow.holds Ybaf.pinned (OpenSpec.ofChange lawS3875AModelWrong)

/-- 'chainwright.LawS3875AEncoded': WHATEVER THE INPUT: true; the input reads as it did. -/
def lawS3875AEncodedSpec : ChangeSpec := { name := "lawS3875AEncoded", fn := fun _ => fun
  | [d1, d2] => { results := [.lit (.bool true)], args := [d1, d2] }
  | _ => none }
def lawS3875AEncodedRow : OpenClaim := { program := "ybulkcbfofmt", sum := "098fde1b106bdf3dbfc4149b158b50e990ee950d81c7f1e9ddf611b825be0d29", func := "example.com/chainwright/chainwright.LawS3875AEncoded", spec := "lawS3875AEncoded", stops := ["fmt.errorf"], inPlace := ["math/big.lshVU", "math/big.addVV", "math/bits.Add64", "math/big.subVV", "math/bits.Sub64", "fmt.errorf"], recurses := true, apart := false }
/-- NO THEOREM (fmt's text is open here; it may be false): for the released tool's asking of the row's closed facts alone. THE STATEMENT IS 'LawS3875AEncodedToldSaid' (YbulkcbfoFmtCards.lean). -/
def LawS3875AEncodedFormAsk : Prop := lawS3875AEncodedRow.holds Ybaf.pinned (OpenSpec.ofChange lawS3875AEncodedSpec)

/-- ITS FALSE NEIGHBOUR: 'it returns false'. Refute it at one input. -/
def lawS3875AEncodedWrong : ChangeSpec := { name := "lawS3875AEncoded", fn := fun _ => fun
  | [d1, d2] => { results := [.lit (.bool false)], args := [d1, d2] }
  | _ => none }
def LawS3875AEncodedWrongFormAsk : Prop := lawS3875AEncodedRow.holds Ybaf.pinned (OpenSpec.ofChange lawS3875AEncodedWrong)

/-- 'chainwright.LawS3875BNilPasses': WHATEVER THE INPUT: true; the input reads as it did. -/
def lawS3875BNilPassesSpec : ChangeSpec := { name := "lawS3875BNilPasses", vars := ["example.com/chainwright/chainwright/internal/der.errTruncated"], fn := fun _ => fun
  | [d1, d2, d3, g1] => { results := [.lit (.bool true)], args := [d1, d2, d3], vars := [g1] }
  | _ => none }
def lawS3875BNilPassesRow : OpenClaim := { program := "ybulkcbfofmt", sum := "098fde1b106bdf3dbfc4149b158b50e990ee950d81c7f1e9ddf611b825be0d29", func := "example.com/chainwright/chainwright.LawS3875BNilPasses", spec := "lawS3875BNilPasses", stops := ["fmt.errorf"], inPlace := ["fmt.errorf"], named := ["example.com/chainwright/chainwright/internal/der.errTruncated"], ifaces := true, apart := false, laid := [("example.com/chainwright/chainwright/internal/der.errTruncated", laid_example_com_chainwright_chainwright_internal_der_errTruncated)] }
/-- NO THEOREM (fmt's text is open here; it may be false): for the released tool's asking of the row's closed facts alone. THE STATEMENT IS 'LawS3875BNilPassesToldSaid' (YbulkcbfoFmtCards.lean). -/
def LawS3875BNilPassesFormAsk : Prop := lawS3875BNilPassesRow.holds Ybaf.pinned (OpenSpec.ofChange lawS3875BNilPassesSpec)

/-- ITS FALSE NEIGHBOUR: 'it returns false'. Refute it at one input. -/
def lawS3875BNilPassesWrong : ChangeSpec := { name := "lawS3875BNilPasses", vars := ["example.com/chainwright/chainwright/internal/der.errTruncated"], fn := fun _ => fun
  | [d1, d2, d3, g1] => { results := [.lit (.bool false)], args := [d1, d2, d3], vars := [g1] }
  | _ => none }
def LawS3875BNilPassesWrongFormAsk : Prop := lawS3875BNilPassesRow.holds Ybaf.pinned (OpenSpec.ofChange lawS3875BNilPassesWrong)

/-- 'chainwright.LawS3875BMatch': WHATEVER THE INPUT: true; the input reads as it did. -/
def lawS3875BMatchSpec : ChangeSpec := { name := "lawS3875BMatch", vars := ["example.com/chainwright/chainwright/internal/der.errTruncated"], fn := fun _ => fun
  | [d1, d2, d3, g1] => { results := [.lit (.bool true)], args := [d1, d2, d3], vars := [g1] }
  | _ => none }
def lawS3875BMatchRow : OpenClaim := { program := "ybulkcbfofmt", sum := "098fde1b106bdf3dbfc4149b158b50e990ee950d81c7f1e9ddf611b825be0d29", func := "example.com/chainwright/chainwright.LawS3875BMatch", spec := "lawS3875BMatch", stops := ["fmt.errorf"], inPlace := ["fmt.errorf"], named := ["example.com/chainwright/chainwright/internal/der.errTruncated"], ifaces := true, apart := false, laid := [("example.com/chainwright/chainwright/internal/der.errTruncated", laid_example_com_chainwright_chainwright_internal_der_errTruncated)] }
/-- NO THEOREM (fmt's text is open here; it may be false): for the released tool's asking of the row's closed facts alone. THE STATEMENT IS 'LawS3875BMatchToldSaid' (YbulkcbfoFmtCards.lean). -/
def LawS3875BMatchFormAsk : Prop := lawS3875BMatchRow.holds Ybaf.pinned (OpenSpec.ofChange lawS3875BMatchSpec)

/-- ITS FALSE NEIGHBOUR: 'it returns false'. Refute it at one input. -/
def lawS3875BMatchWrong : ChangeSpec := { name := "lawS3875BMatch", vars := ["example.com/chainwright/chainwright/internal/der.errTruncated"], fn := fun _ => fun
  | [d1, d2, d3, g1] => { results := [.lit (.bool false)], args := [d1, d2, d3], vars := [g1] }
  | _ => none }
def LawS3875BMatchWrongFormAsk : Prop := lawS3875BMatchRow.holds Ybaf.pinned (OpenSpec.ofChange lawS3875BMatchWrong)

/-- 'chainwright.LawS3875BWrongTag': WHATEVER THE INPUT: true; the input reads as it did. -/
def lawS3875BWrongTagSpec : ChangeSpec := { name := "lawS3875BWrongTag", vars := ["example.com/chainwright/chainwright/internal/der.errTruncated"], fn := fun _ => fun
  | [d1, d2, d3, g1] => { results := [.lit (.bool true)], args := [d1, d2, d3], vars := [g1] }
  | _ => none }
def lawS3875BWrongTagRow : OpenClaim := { program := "ybulkcbfofmt", sum := "098fde1b106bdf3dbfc4149b158b50e990ee950d81c7f1e9ddf611b825be0d29", func := "example.com/chainwright/chainwright.LawS3875BWrongTag", spec := "lawS3875BWrongTag", stops := ["fmt.errorf"], inPlace := ["fmt.errorf"], named := ["example.com/chainwright/chainwright/internal/der.errTruncated"], ifaces := true, apart := false, laid := [("example.com/chainwright/chainwright/internal/der.errTruncated", laid_example_com_chainwright_chainwright_internal_der_errTruncated)] }
/-- NO THEOREM (fmt's text is open here; it may be false): for the released tool's asking of the row's closed facts alone. THE STATEMENT IS 'LawS3875BWrongTagToldSaid' (YbulkcbfoFmtCards.lean). -/
def LawS3875BWrongTagFormAsk : Prop := lawS3875BWrongTagRow.holds Ybaf.pinned (OpenSpec.ofChange lawS3875BWrongTagSpec)

/-- ITS FALSE NEIGHBOUR: 'it returns false'. Refute it at one input. -/
def lawS3875BWrongTagWrong : ChangeSpec := { name := "lawS3875BWrongTag", vars := ["example.com/chainwright/chainwright/internal/der.errTruncated"], fn := fun _ => fun
  | [d1, d2, d3, g1] => { results := [.lit (.bool false)], args := [d1, d2, d3], vars := [g1] }
  | _ => none }
def LawS3875BWrongTagWrongFormAsk : Prop := lawS3875BWrongTagRow.holds Ybaf.pinned (OpenSpec.ofChange lawS3875BWrongTagWrong)

end Rows
end Go.Proofs.YbulkcbfoFmt
