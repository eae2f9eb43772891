/-
  No cell of these rows narrows 'for every input' (looked for: loops, veiled, ifaces, maps, wideKeys, modest, calm, conditions, laid).
  DERIVED. THE GIVEN ROWS OF THIS SEAT. 4 by the template 'for every input the law returns true; each argument reads behind the call as it read before'; 0 by the template 'total and deterministic' (their statements: YbulkbsbaFmtTotals.lean).
  GIVEN WITH THE SEED: the statements are not yours to turn. If you find one false, say at which input.
  Laid BY PROGRAM, IN A SANDBOX (cutbox-rows.mjs): the forced cells as the released guide's own fill.sh prints them over the translation c4ed7d657e13e11d… (all of the seat's roots in one cut). By AI agents, Wed Nov 11 2026. No macro, syntax, notation, axiom, sorry.
-/
import Derived.Test.YbulkbsbaFmtChecked
import GoSem.Claim
import GoSem.ClaimJoined
import GoSem.ClaimMapViews
import Derived.JoinedTies
import Derived.KernelRfl
namespace Go.Proofs.YbulkbsbaFmt
/- THE CELL 'sum', in the pinned program and in every row, IS THE sha256 OF THE DUMP (.gsa) THAT YbulkbsbaFmtProg.lean LOADS. Nothing in Lean hashes anything: it is a label: what it is worth is what the hold of that sum in a sandbox is worth. -/
noncomputable def Ybaf.pinned : Pinned := { name := "ybulkbsbafmt", sum := "c4ed7d657e13e11d03795e9808d7500b9cd17099b1ccbed6a4518cf1d2ad21ef", checked := Ybaf.checked }
namespace Rows
def none {H : Type} : Left H := { results := [], args := [] }

/-- 'grant.LawS3432AExact': WHATEVER THE INPUT: true; the input reads as it did. -/
def lawS3432AExactSpec : ChangeSpec := { name := "lawS3432AExact", fn := fun _ => fun
  | [d] => { results := [.lit (.bool true)], args := [d] }
  | _ => none }
def lawS3432AExactRow : OpenClaim := { program := "ybulkbsbafmt", sum := "c4ed7d657e13e11d03795e9808d7500b9cd17099b1ccbed6a4518cf1d2ad21ef", func := "example.com/grant/grant.LawS3432AExact", spec := "lawS3432AExact", stops := ["fmt.errorf"], inPlace := ["fmt.errorf"], apart := false }
/-- NO THEOREM (fmt's text is open here; it may be false): for the released tool's asking of the row's closed facts alone. THE STATEMENT IS 'LawS3432AExactToldSaid' (YbulkbsbaFmtCards.lean). -/
def LawS3432AExactFormAsk : Prop := lawS3432AExactRow.holds Ybaf.pinned (OpenSpec.ofChange lawS3432AExactSpec)

/-- ITS FALSE NEIGHBOUR: 'it returns false'. Refute it at one input. -/
def lawS3432AExactWrong : ChangeSpec := { name := "lawS3432AExact", fn := fun _ => fun
  | [d] => { results := [.lit (.bool false)], args := [d] }
  | _ => none }
def LawS3432AExactWrongFormAsk : Prop := lawS3432AExactRow.holds Ybaf.pinned (OpenSpec.ofChange lawS3432AExactWrong)

/-- 'grant.LawS3432AEdge': WHATEVER THE INPUT: true; the input reads as it did. -/
def lawS3432AEdgeSpec : ChangeSpec := { name := "lawS3432AEdge", fn := fun _ => fun
  | [d] => { results := [.lit (.bool true)], args := [d] }
  | _ => none }
def lawS3432AEdgeRow : OpenClaim := { program := "ybulkbsbafmt", sum := "c4ed7d657e13e11d03795e9808d7500b9cd17099b1ccbed6a4518cf1d2ad21ef", func := "example.com/grant/grant.LawS3432AEdge", spec := "lawS3432AEdge", stops := ["fmt.errorf"], inPlace := ["fmt.errorf"], apart := false }
/-- NO THEOREM (fmt's text is open here; it may be false): for the released tool's asking of the row's closed facts alone. THE STATEMENT IS 'LawS3432AEdgeToldSaid' (YbulkbsbaFmtCards.lean). -/
def LawS3432AEdgeFormAsk : Prop := lawS3432AEdgeRow.holds Ybaf.pinned (OpenSpec.ofChange lawS3432AEdgeSpec)

/-- ITS FALSE NEIGHBOUR: 'it returns false'. Refute it at one input. -/
def lawS3432AEdgeWrong : ChangeSpec := { name := "lawS3432AEdge", fn := fun _ => fun
  | [d] => { results := [.lit (.bool false)], args := [d] }
  | _ => none }
def LawS3432AEdgeWrongFormAsk : Prop := lawS3432AEdgeRow.holds Ybaf.pinned (OpenSpec.ofChange lawS3432AEdgeWrong)

/-- 'grant.LawS3432CAnyInput': WHATEVER THE INPUT: true; the input reads as it did. -/
def lawS3432CAnyInputSpec : ChangeSpec := { name := "lawS3432CAnyInput", fn := fun _ => fun
  | [d1, d2] => { results := [.lit (.bool true)], args := [d1, d2] }
  | _ => none }
def lawS3432CAnyInputRow : OpenClaim := { program := "ybulkbsbafmt", sum := "c4ed7d657e13e11d03795e9808d7500b9cd17099b1ccbed6a4518cf1d2ad21ef", func := "example.com/grant/grant.LawS3432CAnyInput", spec := "lawS3432CAnyInput", stops := ["fmt.errorf"], inPlace := ["fmt.errorf"], apart := false }
/-- NO THEOREM (fmt's text is open here; it may be false): for the released tool's asking of the row's closed facts alone. THE STATEMENT IS 'LawS3432CAnyInputToldSaid' (YbulkbsbaFmtCards.lean). -/
def LawS3432CAnyInputFormAsk : Prop := lawS3432CAnyInputRow.holds Ybaf.pinned (OpenSpec.ofChange lawS3432CAnyInputSpec)

/-- ITS FALSE NEIGHBOUR: 'it returns false'. Refute it at one input. -/
def lawS3432CAnyInputWrong : ChangeSpec := { name := "lawS3432CAnyInput", fn := fun _ => fun
  | [d1, d2] => { results := [.lit (.bool false)], args := [d1, d2] }
  | _ => none }
def LawS3432CAnyInputWrongFormAsk : Prop := lawS3432CAnyInputRow.holds Ybaf.pinned (OpenSpec.ofChange lawS3432CAnyInputWrong)

/-- 'grant.LawS3432CBuilt': WHATEVER THE INPUT: true; the input reads as it did. -/
def lawS3432CBuiltSpec : ChangeSpec := { name := "lawS3432CBuilt", fn := fun _ => fun
  | [d1, d2, d3] => { results := [.lit (.bool true)], args := [d1, d2, d3] }
  | _ => none }
def lawS3432CBuiltRow : OpenClaim := { program := "ybulkbsbafmt", sum := "c4ed7d657e13e11d03795e9808d7500b9cd17099b1ccbed6a4518cf1d2ad21ef", func := "example.com/grant/grant.LawS3432CBuilt", spec := "lawS3432CBuilt", stops := ["fmt.errorf"], inPlace := ["fmt.errorf"], apart := false }
/-- NO THEOREM (fmt's text is open here; it may be false): for the released tool's asking of the row's closed facts alone. THE STATEMENT IS 'LawS3432CBuiltToldSaid' (YbulkbsbaFmtCards.lean). -/
def LawS3432CBuiltFormAsk : Prop := lawS3432CBuiltRow.holds Ybaf.pinned (OpenSpec.ofChange lawS3432CBuiltSpec)

/-- ITS FALSE NEIGHBOUR: 'it returns false'. Refute it at one input. -/
def lawS3432CBuiltWrong : ChangeSpec := { name := "lawS3432CBuilt", fn := fun _ => fun
  | [d1, d2, d3] => { results := [.lit (.bool false)], args := [d1, d2, d3] }
  | _ => none }
def LawS3432CBuiltWrongFormAsk : Prop := lawS3432CBuiltRow.holds Ybaf.pinned (OpenSpec.ofChange lawS3432CBuiltWrong)

end Rows
end Go.Proofs.YbulkbsbaFmt
