/-
  NARROWER THAN 'FOR EVERY INPUT', by the rows' own cells (each row's printed sentence says how): LawS4981AExact: laid · LawS4981ASign: laid · LawS4981BModel: laid.
  DERIVED. THE GIVEN ROWS OF THIS SEAT. 3 by the template 'for every input the law returns true; each argument reads behind the call as it read before'; 0 by the template 'total and deterministic' (their statements: YbulkcydcDoorTotals.lean).
  GIVEN WITH THE SEED: the statements are not yours to turn. If you find one false, say at which input.
  Laid BY PROGRAM, IN A SANDBOX (cutbox-rows.mjs): the forced cells as the released guide's own fill.sh prints them over the translation be5d4e305ea7937e… (all of the seat's roots in one cut). By AI agents, Wed Nov 11 2026. No macro, syntax, notation, axiom, sorry.
-/
import Derived.Test.YbulkcydcDoorChecked
import GoSem.Claim
import GoSem.ClaimJoined
import GoSem.ClaimMapViews
import Derived.JoinedTies
import Derived.KernelRfl
namespace Go.Proofs.YbulkcydcDoor
/- THE CELL 'sum', in the pinned program and in every row, IS THE sha256 OF THE DUMP (.gsa) THAT YbulkcydcDoorProg.lean LOADS. Nothing in Lean hashes anything: it is a label: what it is worth is what the hold of that sum in a sandbox is worth. -/
noncomputable def Ybad.pinned : Pinned := { name := "ybulkcydcdoor", sum := "be5d4e305ea7937e177d1899affac5f3dd75504c9c40c9874dba2cd5d53280f7", checked := Ybad.checked }
namespace Rows
def none {H : Type} : Left H := { results := [], args := [] }

/- WHAT THE LISTED PACKAGE-LEVEL VARIABLES READ AS WHEN THE CALL BEGINS. Each datum BY PROGRAM (the guide's laid-datum.mjs) off the statement by which the dump's own 'gosem.cut.vars' lays the variable. In a bare row this is a premise. The card (YbulkcydcDoorCards.lean) ties it to the program's text. -/
def laid_math_bits_deBruijn32tab {H : Type} : DataW H := .agg [.lit (.int .u8 0), .lit (.int .u8 1), .lit (.int .u8 28), .lit (.int .u8 2), .lit (.int .u8 29), .lit (.int .u8 14), .lit (.int .u8 24), .lit (.int .u8 3), .lit (.int .u8 30), .lit (.int .u8 22), .lit (.int .u8 20), .lit (.int .u8 15), .lit (.int .u8 25), .lit (.int .u8 17), .lit (.int .u8 4), .lit (.int .u8 8), .lit (.int .u8 31), .lit (.int .u8 27), .lit (.int .u8 13), .lit (.int .u8 23), .lit (.int .u8 21), .lit (.int .u8 19), .lit (.int .u8 16), .lit (.int .u8 7), .lit (.int .u8 26), .lit (.int .u8 12), .lit (.int .u8 18), .lit (.int .u8 6), .lit (.int .u8 11), .lit (.int .u8 5), .lit (.int .u8 10), .lit (.int .u8 9)]
def laid_math_bits_deBruijn64tab {H : Type} : DataW H := .agg [.lit (.int .u8 0), .lit (.int .u8 1), .lit (.int .u8 56), .lit (.int .u8 2), .lit (.int .u8 57), .lit (.int .u8 49), .lit (.int .u8 28), .lit (.int .u8 3), .lit (.int .u8 61), .lit (.int .u8 58), .lit (.int .u8 42), .lit (.int .u8 50), .lit (.int .u8 38), .lit (.int .u8 29), .lit (.int .u8 17), .lit (.int .u8 4), .lit (.int .u8 62), .lit (.int .u8 47), .lit (.int .u8 59), .lit (.int .u8 36), .lit (.int .u8 45), .lit (.int .u8 43), .lit (.int .u8 51), .lit (.int .u8 22), .lit (.int .u8 53), .lit (.int .u8 39), .lit (.int .u8 33), .lit (.int .u8 30), .lit (.int .u8 24), .lit (.int .u8 18), .lit (.int .u8 12), .lit (.int .u8 5), .lit (.int .u8 63), .lit (.int .u8 55), .lit (.int .u8 48), .lit (.int .u8 27), .lit (.int .u8 60), .lit (.int .u8 41), .lit (.int .u8 37), .lit (.int .u8 16), .lit (.int .u8 46), .lit (.int .u8 35), .lit (.int .u8 44), .lit (.int .u8 21), .lit (.int .u8 52), .lit (.int .u8 32), .lit (.int .u8 23), .lit (.int .u8 11), .lit (.int .u8 54), .lit (.int .u8 26), .lit (.int .u8 40), .lit (.int .u8 15), .lit (.int .u8 34), .lit (.int .u8 20), .lit (.int .u8 31), .lit (.int .u8 10), .lit (.int .u8 25), .lit (.int .u8 14), .lit (.int .u8 19), .lit (.int .u8 9), .lit (.int .u8 13), .lit (.int .u8 8), .lit (.int .u8 7), .lit (.int .u8 6)]
def laid_internal_strconv_uint64pow10 {H : Type} : DataW H := .agg [.lit (.int .u64 1), .lit (.int .u64 10), .lit (.int .u64 100), .lit (.int .u64 1000), .lit (.int .u64 10000), .lit (.int .u64 100000), .lit (.int .u64 1000000), .lit (.int .u64 10000000), .lit (.int .u64 100000000), .lit (.int .u64 1000000000), .lit (.int .u64 10000000000), .lit (.int .u64 100000000000), .lit (.int .u64 1000000000000), .lit (.int .u64 10000000000000), .lit (.int .u64 100000000000000), .lit (.int .u64 1000000000000000), .lit (.int .u64 10000000000000000), .lit (.int .u64 100000000000000000), .lit (.int .u64 1000000000000000000), .lit (.int .u64 10000000000000000000)]
def laid_example_com_tickspan_tickspan_zoneLayout {H : Type} : DataW H := .agg [.lit (.string [194, 177, 104, 104, 58, 109, 109]), .lit (.int .u8 58), .lit (.string [122, 77])]
def laid_example_com_tickspan_tickspan_internal_labeled_Units {H : Type} : DataW H := .agg [.lit (.string [89, 69, 65, 82, 83]), .lit (.string [77, 79, 78, 84, 72, 83]), .lit (.string [68, 65, 89, 83]), .lit (.string [72, 79, 85, 82, 83]), .lit (.string [77, 73, 78, 85, 84, 69, 83]), .lit (.string [83, 69, 67, 79, 78, 68, 83]), .lit (.string [77, 73, 67, 82, 79, 83, 69, 67, 79, 78, 68, 83])]

/-- 'tickspan.LawS4981AExact': WHATEVER THE INPUT: true; the input reads as it did. -/
def lawS4981AExactSpec : ChangeSpec := { name := "lawS4981AExact", vars := ["example.com/tickspan/tickspan.zoneLayout"], fn := fun _ => fun
  | [d1, d2, g1] => { results := [.lit (.bool true)], args := [d1, d2], vars := [g1] }
  | _ => none }
def lawS4981AExactRow : OpenClaim := { program := "ybulkcydcdoor", sum := "be5d4e305ea7937e177d1899affac5f3dd75504c9c40c9874dba2cd5d53280f7", func := "example.com/tickspan/tickspan.LawS4981AExact", spec := "lawS4981AExact", named := ["example.com/tickspan/tickspan.zoneLayout", "internal/strconv.uint64pow10", "math/bits.deBruijn32tab", "math/bits.deBruijn64tab"], apart := false, laid := [("math/bits.deBruijn32tab", laid_math_bits_deBruijn32tab), ("math/bits.deBruijn64tab", laid_math_bits_deBruijn64tab), ("internal/strconv.uint64pow10", laid_internal_strconv_uint64pow10), ("example.com/tickspan/tickspan.zoneLayout", laid_example_com_tickspan_tickspan_zoneLayout)] }
def LawS4981AExactSaid : Prop := lawS4981AExactRow.holds Ybad.pinned (OpenSpec.ofChange lawS4981AExactSpec)

/-- ITS FALSE NEIGHBOUR: 'it returns false'. Refute it at one input. -/
def lawS4981AExactWrong : ChangeSpec := { name := "lawS4981AExact", vars := ["example.com/tickspan/tickspan.zoneLayout"], fn := fun _ => fun
  | [d1, d2, g1] => { results := [.lit (.bool false)], args := [d1, d2], vars := [g1] }
  | _ => none }
def LawS4981AExactWrongFalsely : Prop := lawS4981AExactRow.holds Ybad.pinned (OpenSpec.ofChange lawS4981AExactWrong)

/-- 'tickspan.LawS4981ASign': WHATEVER THE INPUT: true; the input reads as it did. -/
def lawS4981ASignSpec : ChangeSpec := { name := "lawS4981ASign", vars := ["example.com/tickspan/tickspan.zoneLayout"], fn := fun _ => fun
  | [d, g1] => { results := [.lit (.bool true)], args := [d], vars := [g1] }
  | _ => none }
def lawS4981ASignRow : OpenClaim := { program := "ybulkcydcdoor", sum := "be5d4e305ea7937e177d1899affac5f3dd75504c9c40c9874dba2cd5d53280f7", func := "example.com/tickspan/tickspan.LawS4981ASign", spec := "lawS4981ASign", named := ["example.com/tickspan/tickspan.zoneLayout", "internal/strconv.uint64pow10", "math/bits.deBruijn32tab", "math/bits.deBruijn64tab"], apart := false, laid := [("math/bits.deBruijn32tab", laid_math_bits_deBruijn32tab), ("math/bits.deBruijn64tab", laid_math_bits_deBruijn64tab), ("internal/strconv.uint64pow10", laid_internal_strconv_uint64pow10), ("example.com/tickspan/tickspan.zoneLayout", laid_example_com_tickspan_tickspan_zoneLayout)] }
def LawS4981ASignSaid : Prop := lawS4981ASignRow.holds Ybad.pinned (OpenSpec.ofChange lawS4981ASignSpec)

/-- ITS FALSE NEIGHBOUR: 'it returns false'. Refute it at one input. -/
def lawS4981ASignWrong : ChangeSpec := { name := "lawS4981ASign", vars := ["example.com/tickspan/tickspan.zoneLayout"], fn := fun _ => fun
  | [d, g1] => { results := [.lit (.bool false)], args := [d], vars := [g1] }
  | _ => none }
def LawS4981ASignWrongFalsely : Prop := lawS4981ASignRow.holds Ybad.pinned (OpenSpec.ofChange lawS4981ASignWrong)

/-- 'expr.LawS4981BModel': WHATEVER THE INPUT: true; the input reads as it did. -/
def lawS4981BModelSpec : ChangeSpec := { name := "lawS4981BModel", vars := ["example.com/tickspan/tickspan/internal/labeled.Units"], fn := fun _ => fun
  | [g1] => { results := [.lit (.bool true)], args := [], vars := [g1] }
  | _ => none }
def lawS4981BModelRow : OpenClaim := { program := "ybulkcydcdoor", sum := "be5d4e305ea7937e177d1899affac5f3dd75504c9c40c9874dba2cd5d53280f7", func := "example.com/tickspan/tickspan/internal/expr.LawS4981BModel", spec := "lawS4981BModel", inPlace := ["internal/abi.NoEscape", "internal/bytealg.MakeNoZero"], named := ["example.com/tickspan/tickspan/internal/labeled.Units"], apart := false, laid := [("example.com/tickspan/tickspan/internal/labeled.Units", laid_example_com_tickspan_tickspan_internal_labeled_Units)] }
def LawS4981BModelSaid : Prop := lawS4981BModelRow.holds Ybad.pinned (OpenSpec.ofChange lawS4981BModelSpec)

/-- ITS FALSE NEIGHBOUR: 'it returns false'. Refute it at one input. -/
def lawS4981BModelWrong : ChangeSpec := { name := "lawS4981BModel", vars := ["example.com/tickspan/tickspan/internal/labeled.Units"], fn := fun _ => fun
  | [g1] => { results := [.lit (.bool false)], args := [], vars := [g1] }
  | _ => none }
def LawS4981BModelWrongFalsely : Prop := lawS4981BModelRow.holds Ybad.pinned (OpenSpec.ofChange lawS4981BModelWrong)

end Rows
end Go.Proofs.YbulkcydcDoor
