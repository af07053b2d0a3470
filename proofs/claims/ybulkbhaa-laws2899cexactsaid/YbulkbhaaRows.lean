/-
  No cell of these rows narrows 'for every input' (looked for: loops, veiled, ifaces, maps, wideKeys, modest, calm, conditions, laid).
  DERIVED. THE GIVEN ROWS OF THIS SEAT. 4 by the template 'for every input the law returns true; each argument reads behind the call as it read before'; 0 by the template 'total and deterministic' (their statements: YbulkbhaaTotals.lean).
  GIVEN WITH THE SEED: the statements are not yours to turn. If you find one false, say at which input.
  Laid BY PROGRAM, IN A SANDBOX (cutbox-rows.mjs): the forced cells as the released guide's own fill.sh prints them over the translation cd2e8752cabb8600… (all of the seat's roots in one cut). By AI agents, Wed Nov 11 2026. No macro, syntax, notation, axiom, sorry.
-/
import Derived.Test.YbulkbhaaChecked
import GoSem.Claim
import GoSem.ClaimJoined
import GoSem.ClaimMapViews
import Derived.JoinedTies
import Derived.KernelRfl
namespace Go.Proofs.Ybulkbhaa
/- THE CELL 'sum', in the pinned program and in every row, IS THE sha256 OF THE DUMP (.gsa) THAT YbulkbhaaProg.lean LOADS. Nothing in Lean hashes anything: it is a label: what it is worth is what the hold of that sum in a sandbox is worth. -/
noncomputable def Yba.pinned : Pinned := { name := "ybulkbhaa", sum := "cd2e8752cabb86003e84ef8da6f2badb0b1f96aa9463005041e82742946242ee", checked := Yba.checked }
namespace Rows
def none {H : Type} : Left H := { results := [], args := [] }

/-- 'cordic.LawS2899BExact': WHATEVER THE INPUT: true; the input reads as it did. -/
def lawS2899BExactSpec : ChangeSpec := { name := "lawS2899BExact", fn := fun _ => fun
  | [d1, d2, d3] => { results := [.lit (.bool true)], args := [d1, d2, d3] }
  | _ => none }
def lawS2899BExactRow : OpenClaim := { program := "ybulkbhaa", sum := "cd2e8752cabb86003e84ef8da6f2badb0b1f96aa9463005041e82742946242ee", func := "example.com/arcshift/arcshift/internal/cordic.LawS2899BExact", spec := "lawS2899BExact", apart := false }
def LawS2899BExactSaid : Prop := lawS2899BExactRow.holds Yba.pinned (OpenSpec.ofChange lawS2899BExactSpec)

/-- ITS FALSE NEIGHBOUR: 'it returns false'. Refute it at one input. -/
def lawS2899BExactWrong : ChangeSpec := { name := "lawS2899BExact", fn := fun _ => fun
  | [d1, d2, d3] => { results := [.lit (.bool false)], args := [d1, d2, d3] }
  | _ => none }
def LawS2899BExactWrongFalsely : Prop := lawS2899BExactRow.holds Yba.pinned (OpenSpec.ofChange lawS2899BExactWrong)

/-- 'cordic.LawS2899BSelect': WHATEVER THE INPUT: true; the input reads as it did. -/
def lawS2899BSelectSpec : ChangeSpec := { name := "lawS2899BSelect", fn := fun _ => fun
  | [d1, d2, d3] => { results := [.lit (.bool true)], args := [d1, d2, d3] }
  | _ => none }
def lawS2899BSelectRow : OpenClaim := { program := "ybulkbhaa", sum := "cd2e8752cabb86003e84ef8da6f2badb0b1f96aa9463005041e82742946242ee", func := "example.com/arcshift/arcshift/internal/cordic.LawS2899BSelect", spec := "lawS2899BSelect", apart := false }
def LawS2899BSelectSaid : Prop := lawS2899BSelectRow.holds Yba.pinned (OpenSpec.ofChange lawS2899BSelectSpec)

/-- ITS FALSE NEIGHBOUR: 'it returns false'. Refute it at one input. -/
def lawS2899BSelectWrong : ChangeSpec := { name := "lawS2899BSelect", fn := fun _ => fun
  | [d1, d2, d3] => { results := [.lit (.bool false)], args := [d1, d2, d3] }
  | _ => none }
def LawS2899BSelectWrongFalsely : Prop := lawS2899BSelectRow.holds Yba.pinned (OpenSpec.ofChange lawS2899BSelectWrong)

/-- 'cordic.LawS2899CExact': WHATEVER THE INPUT: true; the input reads as it did. -/
def lawS2899CExactSpec : ChangeSpec := { name := "lawS2899CExact", fn := fun _ => fun
  | [d1, d2, d3, d4] => { results := [.lit (.bool true)], args := [d1, d2, d3, d4] }
  | _ => none }
def lawS2899CExactRow : OpenClaim := { program := "ybulkbhaa", sum := "cd2e8752cabb86003e84ef8da6f2badb0b1f96aa9463005041e82742946242ee", func := "example.com/arcshift/arcshift/internal/cordic.LawS2899CExact", spec := "lawS2899CExact", inPlace := ["math/bits.Add64", "math/bits.Sub64"], apart := false }
def LawS2899CExactSaid : Prop := lawS2899CExactRow.holds Yba.pinned (OpenSpec.ofChange lawS2899CExactSpec)

/-- ITS FALSE NEIGHBOUR: 'it returns false'. Refute it at one input. -/
def lawS2899CExactWrong : ChangeSpec := { name := "lawS2899CExact", fn := fun _ => fun
  | [d1, d2, d3, d4] => { results := [.lit (.bool false)], args := [d1, d2, d3, d4] }
  | _ => none }
def LawS2899CExactWrongFalsely : Prop := lawS2899CExactRow.holds Yba.pinned (OpenSpec.ofChange lawS2899CExactWrong)

/-- 'cordic.LawS2899CWords': WHATEVER THE INPUT: true; the input reads as it did. -/
def lawS2899CWordsSpec : ChangeSpec := { name := "lawS2899CWords", fn := fun _ => fun
  | [d1, d2, d3, d4] => { results := [.lit (.bool true)], args := [d1, d2, d3, d4] }
  | _ => none }
def lawS2899CWordsRow : OpenClaim := { program := "ybulkbhaa", sum := "cd2e8752cabb86003e84ef8da6f2badb0b1f96aa9463005041e82742946242ee", func := "example.com/arcshift/arcshift/internal/cordic.LawS2899CWords", spec := "lawS2899CWords", inPlace := ["math/bits.Add64", "math/bits.Sub64"], apart := false }
def LawS2899CWordsSaid : Prop := lawS2899CWordsRow.holds Yba.pinned (OpenSpec.ofChange lawS2899CWordsSpec)

/-- ITS FALSE NEIGHBOUR: 'it returns false'. Refute it at one input. -/
def lawS2899CWordsWrong : ChangeSpec := { name := "lawS2899CWords", fn := fun _ => fun
  | [d1, d2, d3, d4] => { results := [.lit (.bool false)], args := [d1, d2, d3, d4] }
  | _ => none }
def LawS2899CWordsWrongFalsely : Prop := lawS2899CWordsRow.holds Yba.pinned (OpenSpec.ofChange lawS2899CWordsWrong)

end Rows
end Go.Proofs.Ybulkbhaa
