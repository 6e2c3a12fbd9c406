/-
  NARROWER THAN 'FOR EVERY INPUT', by the rows' own cells (each row's printed sentence says how): LawS2341ASplit: laid · LawS2341AOne: laid · LawS2341CLong: laid · LawS2341COne: laid.
  DERIVED. THE GIVEN ROWS OF THIS SEAT. 4 by the template 'for every input the law returns true; each argument reads behind the call as it read before'; 0 by the template 'total and deterministic' (their statements: YbulkavloDoorTotals.lean).
  GIVEN WITH THE SEED: the statements are not yours to turn. If you find one false, say at which input.
  Laid BY PROGRAM, IN A SANDBOX (cutbox-rows.mjs): the forced cells as the released guide's own fill.sh prints them over the translation 4c5b6ad6826f44c5… (all of the seat's roots in one cut). By AI agents, Wed Nov 11 2026. No macro, syntax, notation, axiom, sorry.
-/
import Derived.Test.YbulkavloDoorChecked
import GoSem.Claim
import GoSem.ClaimJoined
import GoSem.ClaimMapViews
import Derived.JoinedTies
import Derived.KernelRfl
namespace Go.Proofs.YbulkavloDoor
/- THE CELL 'sum', in the pinned program and in every row, IS THE sha256 OF THE DUMP (.gsa) THAT YbulkavloDoorProg.lean LOADS. Nothing in Lean hashes anything: it is a label: what it is worth is what the hold of that sum in a sandbox is worth. -/
noncomputable def Ybad.pinned : Pinned := { name := "ybulkavlodoor", sum := "4c5b6ad6826f44c5d72bdb7bca75d5745e4de5ff278f89042363a6f05ace8901", checked := Ybad.checked }
namespace Rows
def none {H : Type} : Left H := { results := [], args := [] }

/- WHAT THE LISTED PACKAGE-LEVEL VARIABLES READ AS WHEN THE CALL BEGINS. Each datum BY PROGRAM (the guide's laid-datum.mjs) off the statement by which the dump's own 'gosem.cut.vars' lays the variable. In a bare row this is a premise. The card (YbulkavloDoorCards.lean) ties it to the program's text. -/
def laid_math_bits_deBruijn64tab {H : Type} : DataW H := .agg [.lit (.int .u8 0), .lit (.int .u8 1), .lit (.int .u8 56), .lit (.int .u8 2), .lit (.int .u8 57), .lit (.int .u8 49), .lit (.int .u8 28), .lit (.int .u8 3), .lit (.int .u8 61), .lit (.int .u8 58), .lit (.int .u8 42), .lit (.int .u8 50), .lit (.int .u8 38), .lit (.int .u8 29), .lit (.int .u8 17), .lit (.int .u8 4), .lit (.int .u8 62), .lit (.int .u8 47), .lit (.int .u8 59), .lit (.int .u8 36), .lit (.int .u8 45), .lit (.int .u8 43), .lit (.int .u8 51), .lit (.int .u8 22), .lit (.int .u8 53), .lit (.int .u8 39), .lit (.int .u8 33), .lit (.int .u8 30), .lit (.int .u8 24), .lit (.int .u8 18), .lit (.int .u8 12), .lit (.int .u8 5), .lit (.int .u8 63), .lit (.int .u8 55), .lit (.int .u8 48), .lit (.int .u8 27), .lit (.int .u8 60), .lit (.int .u8 41), .lit (.int .u8 37), .lit (.int .u8 16), .lit (.int .u8 46), .lit (.int .u8 35), .lit (.int .u8 44), .lit (.int .u8 21), .lit (.int .u8 52), .lit (.int .u8 32), .lit (.int .u8 23), .lit (.int .u8 11), .lit (.int .u8 54), .lit (.int .u8 26), .lit (.int .u8 40), .lit (.int .u8 15), .lit (.int .u8 34), .lit (.int .u8 20), .lit (.int .u8 31), .lit (.int .u8 10), .lit (.int .u8 25), .lit (.int .u8 14), .lit (.int .u8 19), .lit (.int .u8 9), .lit (.int .u8 13), .lit (.int .u8 8), .lit (.int .u8 7), .lit (.int .u8 6)]

/-- 'lyndon.LawS2341ASplit': WHATEVER THE INPUT: true; the input reads as it did. -/
def lawS2341ASplitSpec : ChangeSpec := { name := "lawS2341ASplit", fn := fun _ => fun
  | [d1, d2] => { results := [.lit (.bool true)], args := [d1, d2] }
  | _ => none }
def lawS2341ASplitRow : OpenClaim := { program := "ybulkavlodoor", sum := "4c5b6ad6826f44c5d72bdb7bca75d5745e4de5ff278f89042363a6f05ace8901", func := "example.com/lyndon/lyndon.LawS2341ASplit", spec := "lawS2341ASplit", named := ["math/bits.deBruijn64tab"], apart := false, laid := [("math/bits.deBruijn64tab", laid_math_bits_deBruijn64tab)] }
def LawS2341ASplitSaid : Prop := lawS2341ASplitRow.holds Ybad.pinned (OpenSpec.ofChange lawS2341ASplitSpec)

/-- ITS FALSE NEIGHBOUR: 'it returns false'. Refute it at one input. -/
def lawS2341ASplitWrong : ChangeSpec := { name := "lawS2341ASplit", fn := fun _ => fun
  | [d1, d2] => { results := [.lit (.bool false)], args := [d1, d2] }
  | _ => none }
def LawS2341ASplitWrongFalsely : Prop := lawS2341ASplitRow.holds Ybad.pinned (OpenSpec.ofChange lawS2341ASplitWrong)

/-- 'lyndon.LawS2341AOne': WHATEVER THE INPUT: true; the input reads as it did. -/
def lawS2341AOneSpec : ChangeSpec := { name := "lawS2341AOne", fn := fun _ => fun
  | [d] => { results := [.lit (.bool true)], args := [d] }
  | _ => none }
def lawS2341AOneRow : OpenClaim := { program := "ybulkavlodoor", sum := "4c5b6ad6826f44c5d72bdb7bca75d5745e4de5ff278f89042363a6f05ace8901", func := "example.com/lyndon/lyndon.LawS2341AOne", spec := "lawS2341AOne", named := ["math/bits.deBruijn64tab"], apart := false, laid := [("math/bits.deBruijn64tab", laid_math_bits_deBruijn64tab)] }
def LawS2341AOneSaid : Prop := lawS2341AOneRow.holds Ybad.pinned (OpenSpec.ofChange lawS2341AOneSpec)

/-- ITS FALSE NEIGHBOUR: 'it returns false'. Refute it at one input. -/
def lawS2341AOneWrong : ChangeSpec := { name := "lawS2341AOne", fn := fun _ => fun
  | [d] => { results := [.lit (.bool false)], args := [d] }
  | _ => none }
def LawS2341AOneWrongFalsely : Prop := lawS2341AOneRow.holds Ybad.pinned (OpenSpec.ofChange lawS2341AOneWrong)

/-- 'lyndon.LawS2341CLong': WHATEVER THE INPUT: true; the input reads as it did. -/
def lawS2341CLongSpec : ChangeSpec := { name := "lawS2341CLong", fn := fun _ => fun
  | [d] => { results := [.lit (.bool true)], args := [d] }
  | _ => none }
def lawS2341CLongRow : OpenClaim := { program := "ybulkavlodoor", sum := "4c5b6ad6826f44c5d72bdb7bca75d5745e4de5ff278f89042363a6f05ace8901", func := "example.com/lyndon/lyndon.LawS2341CLong", spec := "lawS2341CLong", named := ["math/bits.deBruijn64tab"], apart := false, laid := [("math/bits.deBruijn64tab", laid_math_bits_deBruijn64tab)] }
def LawS2341CLongSaid : Prop := lawS2341CLongRow.holds Ybad.pinned (OpenSpec.ofChange lawS2341CLongSpec)

/-- ITS FALSE NEIGHBOUR: 'it returns false'. Refute it at one input. -/
def lawS2341CLongWrong : ChangeSpec := { name := "lawS2341CLong", fn := fun _ => fun
  | [d] => { results := [.lit (.bool false)], args := [d] }
  | _ => none }
def LawS2341CLongWrongFalsely : Prop := lawS2341CLongRow.holds Ybad.pinned (OpenSpec.ofChange lawS2341CLongWrong)

/-- 'lyndon.LawS2341COne': WHATEVER THE INPUT: true; the input reads as it did. -/
def lawS2341COneSpec : ChangeSpec := { name := "lawS2341COne", fn := fun _ => fun
  | [d] => { results := [.lit (.bool true)], args := [d] }
  | _ => none }
def lawS2341COneRow : OpenClaim := { program := "ybulkavlodoor", sum := "4c5b6ad6826f44c5d72bdb7bca75d5745e4de5ff278f89042363a6f05ace8901", func := "example.com/lyndon/lyndon.LawS2341COne", spec := "lawS2341COne", named := ["math/bits.deBruijn64tab"], apart := false, laid := [("math/bits.deBruijn64tab", laid_math_bits_deBruijn64tab)] }
def LawS2341COneSaid : Prop := lawS2341COneRow.holds Ybad.pinned (OpenSpec.ofChange lawS2341COneSpec)

/-- ITS FALSE NEIGHBOUR: 'it returns false'. Refute it at one input. -/
def lawS2341COneWrong : ChangeSpec := { name := "lawS2341COne", fn := fun _ => fun
  | [d] => { results := [.lit (.bool false)], args := [d] }
  | _ => none }
def LawS2341COneWrongFalsely : Prop := lawS2341COneRow.holds Ybad.pinned (OpenSpec.ofChange lawS2341COneWrong)

end Rows
end Go.Proofs.YbulkavloDoor
