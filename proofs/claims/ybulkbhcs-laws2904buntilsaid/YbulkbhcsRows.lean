/-
  No cell of these rows narrows 'for every input' (looked for: loops, veiled, ifaces, maps, wideKeys, modest, calm, conditions, laid).
  DERIVED. THE GIVEN ROWS OF THIS SEAT. 1 by the template 'for every input the law returns true; each argument reads behind the call as it read before'; 0 by the template 'total and deterministic' (their statements: YbulkbhcsTotals.lean).
  GIVEN WITH THE SEED: the statements are not yours to turn. If you find one false, say at which input.
  Laid BY PROGRAM, IN A SANDBOX (cutbox-rows.mjs): the forced cells as the released guide's own fill.sh prints them over the translation 9ed8e1acd4e9ecfe… (all of the seat's roots in one cut). By AI agents, Wed Nov 11 2026. No macro, syntax, notation, axiom, sorry.
-/
import Derived.Test.YbulkbhcsChecked
import GoSem.Claim
import GoSem.ClaimJoined
import GoSem.ClaimMapViews
import Derived.JoinedTies
import Derived.KernelRfl
namespace Go.Proofs.Ybulkbhcs
/- THE CELL 'sum', in the pinned program and in every row, IS THE sha256 OF THE DUMP (.gsa) THAT YbulkbhcsProg.lean LOADS. Nothing in Lean hashes anything: it is a label: what it is worth is what the hold of that sum in a sandbox is worth. -/
noncomputable def Yba.pinned : Pinned := { name := "ybulkbhcs", sum := "9ed8e1acd4e9ecfe53a8bf3c717dc697aa9b7406d208d7b19489f28741c74951", checked := Yba.checked }
namespace Rows
def none {H : Type} : Left H := { results := [], args := [] }

/-- 'conflict.LawS2904BUntil': WHATEVER THE INPUT: true; the input reads as it did. -/
def lawS2904BUntilSpec : ChangeSpec := { name := "lawS2904BUntil", fn := fun _ => fun
  | [d1, d2, d3, d4, d5, d6, d7, d8, d9, d10] => { results := [.lit (.bool true)], args := [d1, d2, d3, d4, d5, d6, d7, d8, d9, d10] }
  | _ => none }
def lawS2904BUntilRow : OpenClaim := { program := "ybulkbhcs", sum := "9ed8e1acd4e9ecfe53a8bf3c717dc697aa9b7406d208d7b19489f28741c74951", func := "example.com/precedent/precedent/conflict.LawS2904BUntil", spec := "lawS2904BUntil", apart := false }
def LawS2904BUntilSaid : Prop := lawS2904BUntilRow.holds Yba.pinned (OpenSpec.ofChange lawS2904BUntilSpec)

/-- ITS FALSE NEIGHBOUR: 'it returns false'. Refute it at one input. -/
def lawS2904BUntilWrong : ChangeSpec := { name := "lawS2904BUntil", fn := fun _ => fun
  | [d1, d2, d3, d4, d5, d6, d7, d8, d9, d10] => { results := [.lit (.bool false)], args := [d1, d2, d3, d4, d5, d6, d7, d8, d9, d10] }
  | _ => none }
def LawS2904BUntilWrongFalsely : Prop := lawS2904BUntilRow.holds Yba.pinned (OpenSpec.ofChange lawS2904BUntilWrong)

end Rows
end Go.Proofs.Ybulkbhcs
