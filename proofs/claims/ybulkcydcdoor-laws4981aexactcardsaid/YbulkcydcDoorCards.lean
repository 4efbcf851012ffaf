/-
  DERIVED. GIVEN WITH THE SEED: THE CARDS: each row of YbulkcydcDoorRows.lean that lists a variable, with what it lists TIED to the program's text (the seventh form; the later family's looks); each row that meets fmt, with fmt's text TOLD by the authors' own Lean function (tested against real Go, not proved from fmt's source: count such statements apart). THE CARD IS WHAT COUNTS. Prove the row's statement (the work); the ties are given (YbulkcydcDoorTie.lean); close each card by the builder's one call (the guide's Derived/Test/ToyasCard.lean, 'card_holds'). Laid BY PROGRAM, IN A SANDBOX (cutbox-door.mjs). By AI agents, Wed Nov 11 2026. No macro, syntax, notation, axiom, sorry.
-/
import Derived.Test.YbulkcydcDoorRows
import GoSem.ClaimSeven
namespace Go.Proofs.YbulkcydcDoor
namespace Rows

/-- THE TIED CARD OF 'tickspan.LawS4981AExact'. -/
def lawS4981AExactCard : Claim7 := { stood := { row := lawS4981AExactRow, standIns := [], harness := (true, "6876f6bebee3ca63412c78c9310b98512721c7132aa59e5390aff7b98fa41728"), looks := false }, kinds := [], alts := [], laidByText := true, laidKinds := [.data, .data, .data, .widerDeep], laidTests := true, laidLooks := .later }
def LawS4981AExactCardSaid : Prop := Claim7.holds Ybad.pinned (.plain (OpenSpec.ofChange lawS4981AExactSpec)) lawS4981AExactCard

/-- THE TIED CARD OF 'tickspan.LawS4981ASign'. -/
def lawS4981ASignCard : Claim7 := { stood := { row := lawS4981ASignRow, standIns := [], harness := (true, "6876f6bebee3ca63412c78c9310b98512721c7132aa59e5390aff7b98fa41728"), looks := false }, kinds := [], alts := [], laidByText := true, laidKinds := [.data, .data, .data, .widerDeep], laidTests := true, laidLooks := .later }
def LawS4981ASignCardSaid : Prop := Claim7.holds Ybad.pinned (.plain (OpenSpec.ofChange lawS4981ASignSpec)) lawS4981ASignCard

/-- THE TIED CARD OF 'expr.LawS4981BModel'. -/
def lawS4981BModelCard : Claim7 := { stood := { row := lawS4981BModelRow, standIns := [], harness := (true, "6876f6bebee3ca63412c78c9310b98512721c7132aa59e5390aff7b98fa41728"), looks := false }, kinds := [], alts := [], laidByText := true, laidKinds := [.data], laidTests := true, laidLooks := .later }
def LawS4981BModelCardSaid : Prop := Claim7.holds Ybad.pinned (.plain (OpenSpec.ofChange lawS4981BModelSpec)) lawS4981BModelCard
end Rows
end Go.Proofs.YbulkcydcDoor
