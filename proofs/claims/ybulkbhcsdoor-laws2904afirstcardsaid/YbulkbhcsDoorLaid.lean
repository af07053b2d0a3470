import Derived.Test.YbulkbhcsDoorMem
import Derived.ProofKit
import Derived.LaidMore
import Derived.OpenShut
import Derived.Stop.Joined
import Derived.LaidLaws
import Derived.LaidHandle
import Derived.MakeChecks
namespace Go.Proofs.YbulkbhcsDoor
open Go.ChangeShapes Go.WideShapes Go.ChangeAt Go.RowKit

theorem own : ownKnob Ybad.prog.godebug = none := by kernel_rfl
theorem laidOut : laidOutB Ybad.prog = true := by kernel_rfl
theorem gTab : Ybad.prog.globalNamed ((Rows.lawS2904AFirstRow.laid.map (fun x => x.1)).getD 0 "") = some 0 := by kernel_rfl
theorem tTab : (Ybad.prog.globals[0]?).map (·.type) = some 90 := by kernel_rfl
theorem uTab : Ybad.prog.underlying 90 = some (.array 64 5) := by kernel_rfl
theorem uU8 : Ybad.prog.underlying 5 = some (.int .u8) := by kernel_rfl
theorem cU8 : Ybad.prog.cellsOf 5 = 1 := by kernel_rfl
def laidL : List (String × DataW Unit) := Rows.lawS2904AFirstRow.laid

theorem cell_of_trod {enc : TypeId × Value → Unit} {W : World} {base : Nat} {spare : Nat → Bool} {held : Bool} {fuel : Nat} {cs : List Value} {L : List (DataW Unit)} {p : List MemPlace}
    (h : DataW.trod enc Ybad.prog W base spare held fuel 90 cs = some (.agg L, p)) (i : Nat) (hi : i < 64) : ∃ z, L[i]? = some (.lit (.int .u8 z)) ∧ cs[i]? = some (.int .u8 z) := by
  obtain ⟨xs, m, _, hx, hlen, hn, hel⟩ := DataW.trod_array uTab h
  simp only [Prod.mk.injEq, DataW.agg.injEq] at hx
  have h0 := hel i hi
  rw [cU8, Nat.mul_one, List.getElem?_eq_getElem (by omega)] at h0
  obtain ⟨z, e1, e2, _⟩ := DataW.trod_int uU8 h0
  refine ⟨z, ?_, ?_⟩
  · rw [hx.1, List.getElem?_map, List.getElem?_eq_getElem (by omega), e2]; rfl
  · have h2 : ((cs.drop i).take 1)[0]? = some (.int .u8 z) := by rw [e1]; rfl
    rw [List.getElem?_take_of_lt (by omega), List.getElem?_drop] at h2
    simpa using h2
theorem tab_at : ∀ k : Nat, k < 6 → 2 ^ k - 1 < 64 ∧ ∃ L, (Rows.laid_math_bits_deBruijn64tab : DataW Unit) = .agg L ∧ L[2 ^ k - 1]? = some (.lit (.int .u8 k))
  | 0, _ => ⟨by decide, _, rfl, rfl⟩
  | 1, _ => ⟨by decide, _, rfl, rfl⟩
  | 2, _ => ⟨by decide, _, rfl, rfl⟩
  | 3, _ => ⟨by decide, _, rfl, rfl⟩
  | 4, _ => ⟨by decide, _, rfl, rfl⟩
  | 5, _ => ⟨by decide, _, rfl, rfl⟩
  | k + 6, h => absurd h (by omega)
theorem deb_of_laid {W : World} (h : laidMetH Ybad.prog laidL W) : Deb W := by
  rw [MakeChecks.laidMetH_plain _ _ _ (by kernel_rfl)] at h
  obtain ⟨ps, ⟨g0, t0, cs0, f0, p0, q0, hg0, ht0, hv0, hd0, _⟩, _, _⟩ := h
  obtain rfl := Option.some.inj (gTab.symm.trans hg0)
  obtain rfl := Option.some.inj (tTab.symm.trans ht0)
  intro k hk
  obtain ⟨h64, L, hL, hLk⟩ := tab_at k hk
  rw [hL] at hd0
  obtain ⟨z, hz, hc⟩ := cell_of_trod hd0 _ h64
  rw [hLk] at hz
  simp at hz
  subst hz
  rw [World.var?_cell hg0 hv0]
  simpa using hc
/-- The door's own heap meets the condition. -/
theorem door_met (os : Os) (args : Array Value) : laidMetH Ybad.prog laidL ((World.doorLaid Ybad.prog 400 os).forCall (fun _ _ => 0) ⟨#[], args, []⟩).memory :=
  laidMetH_of_parts3 (fuel := 8) (laidMet_of_run' 8 (by kernel_rfl) (by kernel_rfl)) (by kernel_rfl) (by kernel_rfl)
end Go.Proofs.YbulkbhcsDoor
