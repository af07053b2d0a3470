import Derived.Test.YbulkbhceRows
import Derived.WalkKit
import Derived.Lib.EndianBits
import Derived.Deep.Draws
import Derived.Deep.QuietTactic
import Derived.BigQuiet
import Derived.WalkSmall
namespace Go.Proofs.Ybulkbhce
open Go.RowKit

/-- A byte. -/
def By (d : Int) : Prop := 0 ≤ d ∧ d ≤ 255

/-- The number that eight bytes spell, the greatest first. -/
def be8 (d : Nat → Int) : Int := d 7 + d 6 * 256 + d 5 * 65536 + d 4 * 16777216 + d 3 * 4294967296 + d 2 * 1099511627776 + d 1 * 281474976710656 + d 0 * 72057594037927936

set_option maxHeartbeats 2000000 in
set_option maxRecDepth 100000 in
theorem u64_any (g o n c : Nat) (d : Nat → Int) (w : World) (hn : 8 ≤ n) (hd : ∀ i, i < 8 → By (d i)) (hc : ∀ i, i < 8 → w.cell? ⟨g, o + i, none⟩ = some (.int .u8 (d i))) :
    Calls Yba.prog 7 #[.agg #[], .slice (some ⟨g, o, none⟩) n c] w fun e w' => e = .returned (.int .u64 (be8 d)) ∧ Below w.heap.size w w' := by
  obtain ⟨a0, b0⟩ := hd 0 (by omega)
  obtain ⟨a1, b1⟩ := hd 1 (by omega)
  obtain ⟨a2, b2⟩ := hd 2 (by omega)
  obtain ⟨a3, b3⟩ := hd 3 (by omega)
  obtain ⟨a4, b4⟩ := hd 4 (by omega)
  obtain ⟨a5, b5⟩ := hd 5 (by omega)
  obtain ⟨a6, b6⟩ := hd 6 (by omega)
  obtain ⟨a7, b7⟩ := hd 7 (by omega)
  have c0 := hc 0 (by omega)
  have c1 := hc 1 (by omega)
  have c2 := hc 2 (by omega)
  have c3 := hc 3 (by omega)
  have c4 := hc 4 (by omega)
  have c5 := hc 5 (by omega)
  have c6 := hc 6 (by omega)
  have c7 := hc 7 (by omega)
  simp only [Nat.add_zero] at c0
  have hg := World.block_lt_of_cell? w _ c0
  dsimp only at hg
  have hv : Hid (be8 d = d 7 + d 6 * 256 + d 5 * 65536 + d 4 * 16777216 + d 3 * 4294967296 + d 2 * 1099511627776 + d 1 * 281474976710656 + d 0 * 72057594037927936) := rfl
  generalize d 0 = d0 at *
  generalize d 1 = d1 at *
  generalize d 2 = d2 at *
  generalize d 3 = d3 at *
  generalize d 4 = d4 at *
  generalize d 5 = d5 at *
  generalize d 6 = d6 at *
  generalize d 7 = d7 at *
  clear hc hd
  have q0 : 0 < n := by omega
  have q1 : (1 : Int) < (n : Int) := by omega
  have q2 : (2 : Int) < (n : Int) := by omega
  have q3 : (3 : Int) < (n : Int) := by omega
  have q4 : (4 : Int) < (n : Int) := by omega
  have q5 : (5 : Int) < (n : Int) := by omega
  have q6 : (6 : Int) < (n : Int) := by omega
  have q7 : (7 : Int) < (n : Int) := by omega
  go_enter Yba.func7, Yba.ntmps7
  go_wp2
  go_quiet (fail)
  go_wp2
  go_ret
  refine ⟨?_, below_drewN ((Below.refl _ w).alloc (Nat.le_refl _) _) _⟩
  have e : bits .or .u64 (bits .or .u64 (bits .or .u64 (bits .or .u64 (bits .or .u64 (bits .or .u64 (bits .or .u64 d7 (d6 * 256)) (d5 * 65536)) (d4 * 16777216)) (d3 * 4294967296)) (d2 * 1099511627776)) (d1 * 281474976710656)) (d0 * 72057594037927936) = be8 d := by
    rw [hv.out]
    simp (disch := omega) only [u64_or8, u64_or16, u64_or24, u64_or32, u64_or40, u64_or48, u64_or56]
  exact congrArg (fun t => Ending.returned (Value.int IntKind.u64 t)) e
end Go.Proofs.Ybulkbhce
