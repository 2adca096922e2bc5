/-
  DERIVED. GIVEN WITH THE SEED: THE CARDS: each row of YbulkcbfoFmtRows.lean that lists a variable, with what it lists TIED to the program's text (the seventh form; the later family's looks); each row that meets fmt, with fmt's text TOLD by the authors' own Lean function (tested against real Go, not proved from fmt's source: count such statements apart). THE CARD IS WHAT COUNTS. Prove the row's statement (the work); the ties are given (YbulkcbfoFmtTie.lean); close each card by the builder's one call (the guide's Derived/Test/ToyasCard.lean, 'card_holds'). Laid BY PROGRAM, IN A SANDBOX (cutbox-door.mjs). By AI agents, Wed Nov 11 2026. No macro, syntax, notation, axiom, sorry.
-/
import Derived.Test.YbulkcbfoFmtRows
import GoSem.ClaimSeven
namespace Go.Proofs.YbulkcbfoFmt
namespace Rows

/-- THE TOLD CARD OF 'chainwright.LawS3875AModel'. -/
def lawS3875AModelCard : Claim7 := { stood := { row := lawS3875AModelRow, standIns := [], harness := (true, "cda9672740f40c1688737d24aeb0a3084fb467cc2b60f3a58659038fb101fdb7"), looks := false }, told := true, goes := false }
def LawS3875AModelToldSaid : Prop := Claim7.holds Ybaf.pinned (.plain (OpenSpec.ofChange lawS3875AModelSpec)) lawS3875AModelCard
/-- ITS FALSE NEIGHBOUR. Refute it at one input. -/
def LawS3875AModelToldWrongFalsely : Prop := Claim7.holds Ybaf.pinned (.plain (OpenSpec.ofChange lawS3875AModelWrong)) lawS3875AModelCard

/-- THE TOLD CARD OF 'chainwright.LawS3875AEncoded'. -/
def lawS3875AEncodedCard : Claim7 := { stood := { row := lawS3875AEncodedRow, standIns := [], harness := (true, "cda9672740f40c1688737d24aeb0a3084fb467cc2b60f3a58659038fb101fdb7"), looks := false }, told := true, goes := false }
def LawS3875AEncodedToldSaid : Prop := Claim7.holds Ybaf.pinned (.plain (OpenSpec.ofChange lawS3875AEncodedSpec)) lawS3875AEncodedCard
/-- ITS FALSE NEIGHBOUR. Refute it at one input. -/
def LawS3875AEncodedToldWrongFalsely : Prop := Claim7.holds Ybaf.pinned (.plain (OpenSpec.ofChange lawS3875AEncodedWrong)) lawS3875AEncodedCard

/-- THE TOLD AND TIED CARD OF 'chainwright.LawS3875BNilPasses'. -/
def lawS3875BNilPassesCard : Claim7 := { stood := { row := lawS3875BNilPassesRow, standIns := [], harness := (true, "cda9672740f40c1688737d24aeb0a3084fb467cc2b60f3a58659038fb101fdb7"), looks := false }, told := true, laidByText := true, laidKinds := [.sentinel], laidTests := true, laidLooks := .later, goes := false }
def LawS3875BNilPassesToldSaid : Prop := Claim7.holds Ybaf.pinned (.plain (OpenSpec.ofChange lawS3875BNilPassesSpec)) lawS3875BNilPassesCard
/-- ITS FALSE NEIGHBOUR. Refute it at one input. -/
def LawS3875BNilPassesToldWrongFalsely : Prop := Claim7.holds Ybaf.pinned (.plain (OpenSpec.ofChange lawS3875BNilPassesWrong)) lawS3875BNilPassesCard

/-- THE TOLD AND TIED CARD OF 'chainwright.LawS3875BMatch'. -/
def lawS3875BMatchCard : Claim7 := { stood := { row := lawS3875BMatchRow, standIns := [], harness := (true, "cda9672740f40c1688737d24aeb0a3084fb467cc2b60f3a58659038fb101fdb7"), looks := false }, told := true, laidByText := true, laidKinds := [.sentinel], laidTests := true, laidLooks := .later, goes := false }
def LawS3875BMatchToldSaid : Prop := Claim7.holds Ybaf.pinned (.plain (OpenSpec.ofChange lawS3875BMatchSpec)) lawS3875BMatchCard
/-- ITS FALSE NEIGHBOUR. Refute it at one input. -/
def LawS3875BMatchToldWrongFalsely : Prop := Claim7.holds Ybaf.pinned (.plain (OpenSpec.ofChange lawS3875BMatchWrong)) lawS3875BMatchCard

/-- THE TOLD AND TIED CARD OF 'chainwright.LawS3875BWrongTag'. -/
def lawS3875BWrongTagCard : Claim7 := { stood := { row := lawS3875BWrongTagRow, standIns := [], harness := (true, "cda9672740f40c1688737d24aeb0a3084fb467cc2b60f3a58659038fb101fdb7"), looks := false }, told := true, laidByText := true, laidKinds := [.sentinel], laidTests := true, laidLooks := .later, goes := false }
def LawS3875BWrongTagToldSaid : Prop := Claim7.holds Ybaf.pinned (.plain (OpenSpec.ofChange lawS3875BWrongTagSpec)) lawS3875BWrongTagCard
/-- ITS FALSE NEIGHBOUR. Refute it at one input. -/
def LawS3875BWrongTagToldWrongFalsely : Prop := Claim7.holds Ybaf.pinned (.plain (OpenSpec.ofChange lawS3875BWrongTagWrong)) lawS3875BWrongTagCard
end Rows
end Go.Proofs.YbulkcbfoFmt
