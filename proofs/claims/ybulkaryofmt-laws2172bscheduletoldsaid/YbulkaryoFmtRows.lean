/-
  NARROWER THAN 'FOR EVERY INPUT', by the rows' own cells (each row's printed sentence says how): LawS2172BDrain: laid · LawS2172BSchedule: laid.
  DERIVED. THE GIVEN ROWS OF THIS SEAT. 2 by the template 'for every input the law returns true; each argument reads behind the call as it read before'; 0 by the template 'total and deterministic' (their statements: YbulkaryoFmtTotals.lean).
  GIVEN WITH THE SEED: the statements are not yours to turn. If you find one false, say at which input.
  Laid BY PROGRAM, IN A SANDBOX (cutbox-rows.mjs): the forced cells as the released guide's own fill.sh prints them over the translation f2231b34775ecc8d… (all of the seat's roots in one cut). By AI agents, Wed Nov 11 2026. No macro, syntax, notation, axiom, sorry.
-/
import Derived.Test.YbulkaryoFmtChecked
import GoSem.Claim
import GoSem.ClaimJoined
import GoSem.ClaimMapViews
import Derived.JoinedTies
import Derived.KernelRfl
namespace Go.Proofs.YbulkaryoFmt
/- THE CELL 'sum', in the pinned program and in every row, IS THE sha256 OF THE DUMP (.gsa) THAT YbulkaryoFmtProg.lean LOADS. Nothing in Lean hashes anything: it is a label: what it is worth is what the hold of that sum in a sandbox is worth. -/
noncomputable def Ybaf.pinned : Pinned := { name := "ybulkaryofmt", sum := "f2231b34775ecc8da7749d77635dca0afdc2e9a884ab79a7d15a38cf89b4a4e8", checked := Ybaf.checked }
namespace Rows
def none {H : Type} : Left H := { results := [], args := [] }

/- WHAT THE LISTED PACKAGE-LEVEL VARIABLES READ AS WHEN THE CALL BEGINS. Each datum BY PROGRAM (the guide's laid-datum.mjs) off the statement by which the dump's own 'gosem.cut.vars' lays the variable. In a bare row this is a premise. The card (YbulkaryoFmtCards.lean) ties it to the program's text. -/
def laid_math_bits_deBruijn64tab {H : Type} : DataW H := .agg [.lit (.int .u8 0), .lit (.int .u8 1), .lit (.int .u8 56), .lit (.int .u8 2), .lit (.int .u8 57), .lit (.int .u8 49), .lit (.int .u8 28), .lit (.int .u8 3), .lit (.int .u8 61), .lit (.int .u8 58), .lit (.int .u8 42), .lit (.int .u8 50), .lit (.int .u8 38), .lit (.int .u8 29), .lit (.int .u8 17), .lit (.int .u8 4), .lit (.int .u8 62), .lit (.int .u8 47), .lit (.int .u8 59), .lit (.int .u8 36), .lit (.int .u8 45), .lit (.int .u8 43), .lit (.int .u8 51), .lit (.int .u8 22), .lit (.int .u8 53), .lit (.int .u8 39), .lit (.int .u8 33), .lit (.int .u8 30), .lit (.int .u8 24), .lit (.int .u8 18), .lit (.int .u8 12), .lit (.int .u8 5), .lit (.int .u8 63), .lit (.int .u8 55), .lit (.int .u8 48), .lit (.int .u8 27), .lit (.int .u8 60), .lit (.int .u8 41), .lit (.int .u8 37), .lit (.int .u8 16), .lit (.int .u8 46), .lit (.int .u8 35), .lit (.int .u8 44), .lit (.int .u8 21), .lit (.int .u8 52), .lit (.int .u8 32), .lit (.int .u8 23), .lit (.int .u8 11), .lit (.int .u8 54), .lit (.int .u8 26), .lit (.int .u8 40), .lit (.int .u8 15), .lit (.int .u8 34), .lit (.int .u8 20), .lit (.int .u8 31), .lit (.int .u8 10), .lit (.int .u8 25), .lit (.int .u8 14), .lit (.int .u8 19), .lit (.int .u8 9), .lit (.int .u8 13), .lit (.int .u8 8), .lit (.int .u8 7), .lit (.int .u8 6)]

/-- 'procession.LawS2172BDrain': WHATEVER THE INPUT: true; the input reads as it did. -/
def lawS2172BDrainSpec : ChangeSpec := { name := "lawS2172BDrain", fn := fun _ => fun
  | [d1, d2, d3] => { results := [.lit (.bool true)], args := [d1, d2, d3] }
  | _ => none }
def lawS2172BDrainRow : OpenClaim := { program := "ybulkaryofmt", sum := "f2231b34775ecc8da7749d77635dca0afdc2e9a884ab79a7d15a38cf89b4a4e8", func := "example.com/procession/procession.LawS2172BDrain", spec := "lawS2172BDrain", stops := ["fmt.errorf"], inPlace := ["fmt.errorf"], named := ["math/bits.deBruijn64tab"], apart := false, laid := [("math/bits.deBruijn64tab", laid_math_bits_deBruijn64tab)] }
/-- NO THEOREM (fmt's text is open here; it may be false): for the released tool's asking of the row's closed facts alone. THE STATEMENT IS 'LawS2172BDrainToldSaid' (YbulkaryoFmtCards.lean). -/
def LawS2172BDrainFormAsk : Prop := lawS2172BDrainRow.holds Ybaf.pinned (OpenSpec.ofChange lawS2172BDrainSpec)

/-- ITS FALSE NEIGHBOUR: 'it returns false'. Refute it at one input. -/
def lawS2172BDrainWrong : ChangeSpec := { name := "lawS2172BDrain", fn := fun _ => fun
  | [d1, d2, d3] => { results := [.lit (.bool false)], args := [d1, d2, d3] }
  | _ => none }
def LawS2172BDrainWrongFormAsk : Prop := lawS2172BDrainRow.holds Ybaf.pinned (OpenSpec.ofChange lawS2172BDrainWrong)

/-- 'procession.LawS2172BSchedule': WHATEVER THE INPUT: true; the input reads as it did. -/
def lawS2172BScheduleSpec : ChangeSpec := { name := "lawS2172BSchedule", fn := fun _ => fun
  | [d1, d2, d3, d4, d5] => { results := [.lit (.bool true)], args := [d1, d2, d3, d4, d5] }
  | _ => none }
def lawS2172BScheduleRow : OpenClaim := { program := "ybulkaryofmt", sum := "f2231b34775ecc8da7749d77635dca0afdc2e9a884ab79a7d15a38cf89b4a4e8", func := "example.com/procession/procession.LawS2172BSchedule", spec := "lawS2172BSchedule", stops := ["fmt.errorf"], inPlace := ["fmt.errorf"], named := ["math/bits.deBruijn64tab"], apart := false, laid := [("math/bits.deBruijn64tab", laid_math_bits_deBruijn64tab)] }
/-- NO THEOREM (fmt's text is open here; it may be false): for the released tool's asking of the row's closed facts alone. THE STATEMENT IS 'LawS2172BScheduleToldSaid' (YbulkaryoFmtCards.lean). -/
def LawS2172BScheduleFormAsk : Prop := lawS2172BScheduleRow.holds Ybaf.pinned (OpenSpec.ofChange lawS2172BScheduleSpec)

/-- ITS FALSE NEIGHBOUR: 'it returns false'. Refute it at one input. -/
def lawS2172BScheduleWrong : ChangeSpec := { name := "lawS2172BSchedule", fn := fun _ => fun
  | [d1, d2, d3, d4, d5] => { results := [.lit (.bool false)], args := [d1, d2, d3, d4, d5] }
  | _ => none }
def LawS2172BScheduleWrongFormAsk : Prop := lawS2172BScheduleRow.holds Ybaf.pinned (OpenSpec.ofChange lawS2172BScheduleWrong)

end Rows
end Go.Proofs.YbulkaryoFmt
