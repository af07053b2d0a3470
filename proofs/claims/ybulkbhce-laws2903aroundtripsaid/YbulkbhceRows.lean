/-
  No cell of these rows narrows 'for every input' (looked for: loops, veiled, ifaces, maps, wideKeys, modest, calm, conditions, laid).
  DERIVED. THE GIVEN ROWS OF THIS SEAT. 2 by the template 'for every input the law returns true; each argument reads behind the call as it read before'; 0 by the template 'total and deterministic' (their statements: YbulkbhceTotals.lean).
  GIVEN WITH THE SEED: the statements are not yours to turn. If you find one false, say at which input.
  Laid BY PROGRAM, IN A SANDBOX (cutbox-rows.mjs): the forced cells as the released guide's own fill.sh prints them over the translation 7f630f80bb85f48f… (all of the seat's roots in one cut). By AI agents, Wed Nov 11 2026. No macro, syntax, notation, axiom, sorry.
-/
import Derived.Test.YbulkbhceChecked
import GoSem.Claim
import GoSem.ClaimJoined
import GoSem.ClaimMapViews
import Derived.JoinedTies
import Derived.KernelRfl
namespace Go.Proofs.Ybulkbhce
/- THE CELL 'sum', in the pinned program and in every row, IS THE sha256 OF THE DUMP (.gsa) THAT YbulkbhceProg.lean LOADS. Nothing in Lean hashes anything: it is a label: what it is worth is what the hold of that sum in a sandbox is worth. -/
noncomputable def Yba.pinned : Pinned := { name := "ybulkbhce", sum := "7f630f80bb85f48f00ab45141766c3e64cd3badfa754de1809286011580d06d0", checked := Yba.checked }
namespace Rows
def none {H : Type} : Left H := { results := [], args := [] }

/-- 'config.LawS2903AModel': WHATEVER THE INPUT: true; the input reads as it did. -/
def lawS2903AModelSpec : ChangeSpec := { name := "lawS2903AModel", fn := fun _ => fun
  | [d] => { results := [.lit (.bool true)], args := [d] }
  | _ => none }
def lawS2903AModelRow : OpenClaim := { program := "ybulkbhce", sum := "7f630f80bb85f48f00ab45141766c3e64cd3badfa754de1809286011580d06d0", func := "example.com/nightjar/nightjar/config.LawS2903AModel", spec := "lawS2903AModel", named := ["encoding/binary.BigEndian"], apart := false }
def LawS2903AModelSaid : Prop := lawS2903AModelRow.holds Yba.pinned (OpenSpec.ofChange lawS2903AModelSpec)

/-- ITS FALSE NEIGHBOUR: 'it returns false'. Refute it at one input. -/
def lawS2903AModelWrong : ChangeSpec := { name := "lawS2903AModel", fn := fun _ => fun
  | [d] => { results := [.lit (.bool false)], args := [d] }
  | _ => none }
def LawS2903AModelWrongFalsely : Prop := lawS2903AModelRow.holds Yba.pinned (OpenSpec.ofChange lawS2903AModelWrong)

/-- 'config.LawS2903ARoundTrip': WHATEVER THE INPUT: true; the input reads as it did. -/
def lawS2903ARoundTripSpec : ChangeSpec := { name := "lawS2903ARoundTrip", fn := fun _ => fun
  | [d1, d2, d3, d4] => { results := [.lit (.bool true)], args := [d1, d2, d3, d4] }
  | _ => none }
def lawS2903ARoundTripRow : OpenClaim := { program := "ybulkbhce", sum := "7f630f80bb85f48f00ab45141766c3e64cd3badfa754de1809286011580d06d0", func := "example.com/nightjar/nightjar/config.LawS2903ARoundTrip", spec := "lawS2903ARoundTrip", named := ["encoding/binary.BigEndian"], apart := false }
def LawS2903ARoundTripSaid : Prop := lawS2903ARoundTripRow.holds Yba.pinned (OpenSpec.ofChange lawS2903ARoundTripSpec)

/-- ITS FALSE NEIGHBOUR: 'it returns false'. Refute it at one input. -/
def lawS2903ARoundTripWrong : ChangeSpec := { name := "lawS2903ARoundTrip", fn := fun _ => fun
  | [d1, d2, d3, d4] => { results := [.lit (.bool false)], args := [d1, d2, d3, d4] }
  | _ => none }
def LawS2903ARoundTripWrongFalsely : Prop := lawS2903ARoundTripRow.holds Yba.pinned (OpenSpec.ofChange lawS2903ARoundTripWrong)

end Rows
end Go.Proofs.Ybulkbhce
