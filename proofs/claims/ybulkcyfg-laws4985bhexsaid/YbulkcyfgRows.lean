/-
  No cell of these rows narrows 'for every input' (looked for: loops, veiled, ifaces, maps, wideKeys, modest, calm, conditions, laid).
  DERIVED. THE GIVEN ROWS OF THIS SEAT. 2 by the template 'for every input the law returns true; each argument reads behind the call as it read before'; 0 by the template 'total and deterministic' (their statements: YbulkcyfgTotals.lean).
  GIVEN WITH THE SEED: the statements are not yours to turn. If you find one false, say at which input.
  Laid BY PROGRAM, IN A SANDBOX (cutbox-rows.mjs): the forced cells as the released guide's own fill.sh prints them over the translation 68fe9ba6ed58bca1… (all of the seat's roots in one cut). By AI agents, Wed Nov 11 2026. No macro, syntax, notation, axiom, sorry.
-/
import Derived.Test.YbulkcyfgChecked
import GoSem.Claim
import GoSem.ClaimJoined
import GoSem.ClaimMapViews
import Derived.JoinedTies
import Derived.KernelRfl
namespace Go.Proofs.Ybulkcyfg
/- THE CELL 'sum', in the pinned program and in every row, IS THE sha256 OF THE DUMP (.gsa) THAT YbulkcyfgProg.lean LOADS. Nothing in Lean hashes anything: it is a label: what it is worth is what the hold of that sum in a sandbox is worth. -/
noncomputable def Yba.pinned : Pinned := { name := "ybulkcyfg", sum := "68fe9ba6ed58bca1592f9ef138270a737fa09a36d1cdba3cb86a80573d60807a", checked := Yba.checked }
namespace Rows
def none {H : Type} : Left H := { results := [], args := [] }

/-- 'tunnelwright.LawS4985BHex': WHATEVER THE INPUT: true; the input reads as it did. -/
def lawS4985BHexSpec : ChangeSpec := { name := "lawS4985BHex", fn := fun _ => fun
  | [d1, d2] => { results := [.lit (.bool true)], args := [d1, d2] }
  | _ => none }
def lawS4985BHexRow : OpenClaim := { program := "ybulkcyfg", sum := "68fe9ba6ed58bca1592f9ef138270a737fa09a36d1cdba3cb86a80573d60807a", func := "example.com/tunnelwright/tunnelwright.LawS4985BHex", spec := "lawS4985BHex", apart := false }
def LawS4985BHexSaid : Prop := lawS4985BHexRow.holds Yba.pinned (OpenSpec.ofChange lawS4985BHexSpec)

/-- ITS FALSE NEIGHBOUR: 'it returns false'. Refute it at one input. -/
def lawS4985BHexWrong : ChangeSpec := { name := "lawS4985BHex", fn := fun _ => fun
  | [d1, d2] => { results := [.lit (.bool false)], args := [d1, d2] }
  | _ => none }
def LawS4985BHexWrongFalsely : Prop := lawS4985BHexRow.holds Yba.pinned (OpenSpec.ofChange lawS4985BHexWrong)

/-- 'tunnelwright.LawS4985BSplit': WHATEVER THE INPUT: true; the input reads as it did. -/
def lawS4985BSplitSpec : ChangeSpec := { name := "lawS4985BSplit", fn := fun _ => fun
  | [d1, d2] => { results := [.lit (.bool true)], args := [d1, d2] }
  | _ => none }
def lawS4985BSplitRow : OpenClaim := { program := "ybulkcyfg", sum := "68fe9ba6ed58bca1592f9ef138270a737fa09a36d1cdba3cb86a80573d60807a", func := "example.com/tunnelwright/tunnelwright.LawS4985BSplit", spec := "lawS4985BSplit", apart := false }
def LawS4985BSplitSaid : Prop := lawS4985BSplitRow.holds Yba.pinned (OpenSpec.ofChange lawS4985BSplitSpec)

/-- ITS FALSE NEIGHBOUR: 'it returns false'. Refute it at one input. -/
def lawS4985BSplitWrong : ChangeSpec := { name := "lawS4985BSplit", fn := fun _ => fun
  | [d1, d2] => { results := [.lit (.bool false)], args := [d1, d2] }
  | _ => none }
def LawS4985BSplitWrongFalsely : Prop := lawS4985BSplitRow.holds Yba.pinned (OpenSpec.ofChange lawS4985BSplitWrong)

end Rows
end Go.Proofs.Ybulkcyfg
