/-
  DERIVED. GIVEN WITH THE SEED: THE CARDS: each row of YbulkbhcsDoorRows.lean that lists a variable, with what it lists TIED to the program's text (the seventh form; the later family's looks); each row that meets fmt, with fmt's text TOLD by the authors' own Lean function (tested against real Go, not proved from fmt's source: count such statements apart). THE CARD IS WHAT COUNTS. Prove the row's statement (the work); the ties are given (YbulkbhcsDoorTie.lean); close each card by the builder's one call (the guide's Derived/Test/ToyasCard.lean, 'card_holds'). Laid BY PROGRAM, IN A SANDBOX (cutbox-door.mjs). By AI agents, Wed Nov 11 2026. No macro, syntax, notation, axiom, sorry.
-/
import Derived.Test.YbulkbhcsDoorRows
import GoSem.ClaimSeven
namespace Go.Proofs.YbulkbhcsDoor
namespace Rows

/-- THE TIED CARD OF 'conflict.LawS2904AOrders'. -/
def lawS2904AOrdersCard : Claim7 := { stood := { row := lawS2904AOrdersRow, standIns := [], harness := (true, "a2e9109fe30ef3e988172a656653b8d2aa8cbc230bfe770e4f72c7904d978386"), looks := false }, kinds := [], alts := [], laidByText := true, laidKinds := [.data], laidTests := true, laidLooks := .later }
def LawS2904AOrdersCardSaid : Prop := Claim7.holds Ybad.pinned (.plain (OpenSpec.ofChange lawS2904AOrdersSpec)) lawS2904AOrdersCard

/-- THE TIED CARD OF 'conflict.LawS2904AFirst'. -/
def lawS2904AFirstCard : Claim7 := { stood := { row := lawS2904AFirstRow, standIns := [], harness := (true, "a2e9109fe30ef3e988172a656653b8d2aa8cbc230bfe770e4f72c7904d978386"), looks := false }, kinds := [], alts := [], laidByText := true, laidKinds := [.data], laidTests := true, laidLooks := .later }
def LawS2904AFirstCardSaid : Prop := Claim7.holds Ybad.pinned (.plain (OpenSpec.ofChange lawS2904AFirstSpec)) lawS2904AFirstCard
end Rows
end Go.Proofs.YbulkbhcsDoor
