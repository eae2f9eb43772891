/-
  DERIVED. GIVEN WITH THE SEED: THE CARDS: each row of YbulkbsbaFmtRows.lean that lists a variable, with what it lists TIED to the program's text (the seventh form; the later family's looks); each row that meets fmt, with fmt's text TOLD by the authors' own Lean function (tested against real Go, not proved from fmt's source: count such statements apart). THE CARD IS WHAT COUNTS. Prove the row's statement (the work); the ties are given (YbulkbsbaFmtTie.lean); close each card by the builder's one call (the guide's Derived/Test/ToyasCard.lean, 'card_holds'). Laid BY PROGRAM, IN A SANDBOX (cutbox-door.mjs). By AI agents, Wed Nov 11 2026. No macro, syntax, notation, axiom, sorry.
-/
import Derived.Test.YbulkbsbaFmtRows
import GoSem.ClaimSeven
namespace Go.Proofs.YbulkbsbaFmt
namespace Rows

/-- THE TOLD CARD OF 'grant.LawS3432AExact'. -/
def lawS3432AExactCard : Claim7 := { stood := { row := lawS3432AExactRow, standIns := [], harness := (true, "4608bf3ee317b866e8a68d5df2c6470c24fd8aa70187787ef49246bcd99d0420"), looks := false }, told := true, goes := false }
def LawS3432AExactToldSaid : Prop := Claim7.holds Ybaf.pinned (.plain (OpenSpec.ofChange lawS3432AExactSpec)) lawS3432AExactCard
/-- ITS FALSE NEIGHBOUR. Refute it at one input. -/
def LawS3432AExactToldWrongFalsely : Prop := Claim7.holds Ybaf.pinned (.plain (OpenSpec.ofChange lawS3432AExactWrong)) lawS3432AExactCard

/-- THE TOLD CARD OF 'grant.LawS3432AEdge'. -/
def lawS3432AEdgeCard : Claim7 := { stood := { row := lawS3432AEdgeRow, standIns := [], harness := (true, "4608bf3ee317b866e8a68d5df2c6470c24fd8aa70187787ef49246bcd99d0420"), looks := false }, told := true, goes := false }
def LawS3432AEdgeToldSaid : Prop := Claim7.holds Ybaf.pinned (.plain (OpenSpec.ofChange lawS3432AEdgeSpec)) lawS3432AEdgeCard
/-- ITS FALSE NEIGHBOUR. Refute it at one input. -/
def LawS3432AEdgeToldWrongFalsely : Prop := Claim7.holds Ybaf.pinned (.plain (OpenSpec.ofChange lawS3432AEdgeWrong)) lawS3432AEdgeCard

/-- THE TOLD CARD OF 'grant.LawS3432CAnyInput'. -/
def lawS3432CAnyInputCard : Claim7 := { stood := { row := lawS3432CAnyInputRow, standIns := [], harness := (true, "4608bf3ee317b866e8a68d5df2c6470c24fd8aa70187787ef49246bcd99d0420"), looks := false }, told := true, goes := false }
def LawS3432CAnyInputToldSaid : Prop := Claim7.holds Ybaf.pinned (.plain (OpenSpec.ofChange lawS3432CAnyInputSpec)) lawS3432CAnyInputCard
/-- ITS FALSE NEIGHBOUR. Refute it at one input. -/
def LawS3432CAnyInputToldWrongFalsely : Prop := Claim7.holds Ybaf.pinned (.plain (OpenSpec.ofChange lawS3432CAnyInputWrong)) lawS3432CAnyInputCard

/-- THE TOLD CARD OF 'grant.LawS3432CBuilt'. -/
def lawS3432CBuiltCard : Claim7 := { stood := { row := lawS3432CBuiltRow, standIns := [], harness := (true, "4608bf3ee317b866e8a68d5df2c6470c24fd8aa70187787ef49246bcd99d0420"), looks := false }, told := true, goes := false }
def LawS3432CBuiltToldSaid : Prop := Claim7.holds Ybaf.pinned (.plain (OpenSpec.ofChange lawS3432CBuiltSpec)) lawS3432CBuiltCard
/-- ITS FALSE NEIGHBOUR. Refute it at one input. -/
def LawS3432CBuiltToldWrongFalsely : Prop := Claim7.holds Ybaf.pinned (.plain (OpenSpec.ofChange lawS3432CBuiltWrong)) lawS3432CBuiltCard
end Rows
end Go.Proofs.YbulkbsbaFmt
