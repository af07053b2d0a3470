import Derived.Test.YbulkbhcsDoorRows
import Derived.WalkKit
import Derived.Below
import Derived.BigFrame
import Derived.RegionTactic
import Derived.BigRegion
import Derived.BigQuiet
import Derived.Deep.RegionHeld3
import Derived.Deep.DeepCutAuto
import Derived.Deep.Light
import Derived.Deep.LoopGhost
import Derived.Deep.Draws
import Derived.OneCell
import Derived.WalkSmall
namespace Go.Proofs.YbulkbhcsDoor
open Go.RowKit

/-- Block b is a row of the numbers zs, of the kind k. -/
def Row (w : World) (b : Nat) (t : TypeId) (k : IntKind) (zs : List Int) : Prop :=
  w.heap[b]? = some (.cells (zs.map (Value.int k)).toArray t (0, 0))
theorem heap_set {w : World} {b o : Nat} {c : Array Value} {t : TypeId} {fr : Nat × Nat} (h : w.heap[b]? = some (.cells c t fr)) (u : Value) :
    (w.setCell ⟨b, o, none⟩ u).heap[b]? = some (.cells (c.setIfInBounds o u) t fr) := by
  have hlt := lt_of_block h
  have h' : w.heap[b] = .cells c t fr := by simpa [Array.getElem?_eq_getElem hlt] using h
  show (w.heap.modify b _)[b]? = _
  rw [Array.getElem?_eq_getElem (by simpa using hlt), Array.getElem_modify_self, h']
  rfl
section
variable {w w' : World} {b : Nat} {t : TypeId} {k : IntKind} {zs : List Int}
theorem Row.lt (h : Row w b t k zs) : b < w.heap.size := lt_of_block h
theorem Row.cell (h : Row w b t k zs) {i : Nat} (hi : i < zs.length) : w.cell? ⟨b, i, none⟩ = some (.int k (zs.getD i 0)) := by
  unfold Row at h
  simp [World.cell?, h, hi]
theorem Row.free (h : Row w b t k zs) (i : Nat) : w.frozen? ⟨b, i, none⟩ = false := by
  unfold Row at h
  simp [World.frozen?, h]
theorem Row.of_block (h : Row w b t k zs) (hb : w'.heap[b]? = w.heap[b]?) : Row w' b t k zs := hb.trans h
theorem Row.set (h : Row w b t k zs) (i : Nat) (v : Int) : Row (w.setCell ⟨b, i, none⟩ (.int k v)) b t k (zs.set i v) := by
  unfold Row at *
  rw [heap_set h]
  congr 2
  apply Array.ext'
  simp [List.map_set]
theorem Row.below (h : Row w b t k zs) {B : Nat} (hb : Below B w w') (hB : b < B) : Row w' b t k zs := h.of_block (hb.block b hB)
end

/-- The set of nodes at block bs: one level of one word. -/
structure NS (w : World) (bs bl bw cap : Nat) (F : Nat) : Prop where
  c0 : w.cell? ⟨bs, 0, none⟩ = some (.slice (some ⟨bl, 0, none⟩) 1 cap)
  c1 : w.cell? ⟨bl, 0, none⟩ = some (.slice (some ⟨bw, 0, none⟩) 1 1)
  c2 : Row w bw 71 .u64 [(F : Int)]

theorem or_word : ∀ F : Nat, F < 64 → ∀ v : Nat, v < 6 → bits BinOp.or IntKind.u64 (F : Int) (IntKind.u64.wrap (2 ^ v)) = ((F ||| 2 ^ v : Nat) : Int) := by decide +kernel
theorem andnot_word : ∀ F : Nat, F < 64 → ∀ v : Nat, v < 6 → bits BinOp.andNot IntKind.u64 (F : Int) (IntKind.u64.wrap (2 ^ v)) = ((F - (F &&& 2 ^ v) : Nat) : Int) := by decide +kernel
theorem or_small : ∀ F : Nat, F < 64 → ∀ v : Nat, v < 6 → F ||| 2 ^ v < 64 := by decide

set_option maxHeartbeats 1000000 in
set_option maxRecDepth 100000 in
theorem add_ok (w : World) (bs bl bw cap F v : Nat) (hv : v < 6) (hF : F < 64) (h : NS w bs bl bw cap F) :
    Calls Ybad.prog 25 #[.pointer (some ⟨bs, 0, none⟩), .int .i64 v] w fun e w' => (∃ x, e = .returned x) ∧ w' = w.setCell ⟨bw, 0, none⟩ (.int .u64 ((F ||| 2 ^ v : Nat) : Int)) := by
  have c0 := h.c0
  have c1 := h.c1
  have c2 := h.c2.cell (i := 0) (by simp)
  have f2 := h.c2.free 0
  simp at c2
  go_enter Ybad.func25, Ybad.ntmps25
  have hconv : IntKind.u64.wrap (v : Int) = (v : Int) := by rw [IntKind.wrap_u64]; omega
  go_wp2_with fail
  go_loopg [4, 15] 1 (fun g s4 s15 wr => (g = 1 ∧ s4 = .int .u64 v ∧ s15 = .int .i64 0 ∧ wr = w) ∨ (g = 0 ∧ s15 = .int .i64 1 ∧ wr = w.setCell ⟨bw, 0, none⟩ (.int .u64 ((F ||| 2 ^ v : Nat) : Int))))
  case atStart => exact .inl ⟨rfl, by first | rfl | (rw [hconv]), rfl, rfl⟩
  case round =>
    rcases hrel with ⟨rfl, rfl, rfl, rfl⟩ | ⟨rfl, rfl, rfl⟩
    · have hq : (v : Int) / 64 = 0 := by omega
      have hr : (v : Int) % 64 = (v : Int) := by omega
      have hor := or_word F hF v hv
      go_wp2_with fail
      · refine bodyPost_ret (results_none rfl _ _ _) rfl ?_
        exact ⟨⟨_, rfl⟩, rfl⟩
      · go_roundg 0
        case measure => omega
        case rel => exact .inr ⟨rfl, rfl, rfl⟩
    · go_wp2_with fail
      go_end0
      exact ⟨⟨_, rfl⟩, rfl⟩

set_option maxHeartbeats 1000000 in
set_option maxRecDepth 100000 in
theorem remove_ok (w : World) (bs bl bw cap F v : Nat) (hv : v < 6) (hF : F < 64) (h : NS w bs bl bw cap F) :
    Calls Ybad.prog 28 #[.pointer (some ⟨bs, 0, none⟩), .int .i64 v] w fun e w' => (∃ x, e = .returned x) ∧ w' = w.setCell ⟨bw, 0, none⟩ (.int .u64 ((F - (F &&& 2 ^ v) : Nat) : Int)) := by
  have c0 := h.c0
  have c1 := h.c1
  have c2 := h.c2.cell (i := 0) (by simp)
  have f2 := h.c2.free 0
  simp at c2
  go_enter Ybad.func28, Ybad.ntmps28
  have hconv : IntKind.u64.wrap (v : Int) = (v : Int) := by rw [IntKind.wrap_u64]; omega
  go_wp2_with fail
  go_loopg [4, 14] 1 (fun g s4 s15 wr => (g = 1 ∧ s4 = .int .u64 v ∧ s15 = .int .i64 0 ∧ wr = w) ∨ (g = 0 ∧ s15 = .int .i64 1 ∧ wr = w.setCell ⟨bw, 0, none⟩ (.int .u64 ((F - (F &&& 2 ^ v) : Nat) : Int))))
  case atStart => exact .inl ⟨rfl, by first | rfl | (rw [hconv]), rfl, rfl⟩
  case round =>
    rcases hrel with ⟨rfl, rfl, rfl, rfl⟩ | ⟨rfl, rfl, rfl⟩
    · have hq : (v : Int) / 64 = 0 := by omega
      have hr : (v : Int) % 64 = (v : Int) := by omega
      have hor := andnot_word F hF v hv
      go_wp2_with fail
      · refine bodyPost_ret (results_none rfl _ _ _) rfl ?_
        exact ⟨⟨_, rfl⟩, rfl⟩
      · go_roundg 0
        case measure => omega
        case rel => exact .inr ⟨rfl, rfl, rfl⟩
    · go_wp2_with fail
      go_end0
      exact ⟨⟨_, rfl⟩, rfl⟩

/-- A node's key. -/
def mixK (x s c : Int) : Int := IntKind.u64.wrap (bits BinOp.xor IntKind.u64 x (x / s) * c)
def keyV (v : Nat) : Int :=
  bits BinOp.xor IntKind.u64 (mixK (mixK (IntKind.u64.wrap (((v : Int) + 1) * 11400714819323198485)) 1073741824 13787848793156543929) 134217728 10723151780598845931)
    (mixK (mixK (IntKind.u64.wrap (((v : Int) + 1) * 11400714819323198485)) 1073741824 13787848793156543929) 134217728 10723151780598845931 / 2147483648)
set_option maxHeartbeats 1000000 in
set_option maxRecDepth 100000 in
theorem key_ok (w : World) (v : Nat) (hv : v < 6) :
    Calls Ybad.prog 23 #[.int .i64 v] w fun e w' => e = .returned (.int .u64 (keyV v)) ∧ w' = w := by
  go_enter Ybad.func23, Ybad.ntmps23
  go_wp2_with fail
  go_ret
  refine ⟨?_, rfl⟩
  simp [keyV, mixK]

set_option maxHeartbeats 1000000 in
set_option maxRecDepth 100000 in
theorem get_ok (w : World) (b o : Nat) (x : Int) (hc : w.cell? ⟨b, o + 1, none⟩ = some (.int .i64 0)) :
    Calls Ybad.prog 39 #[.pointer (some ⟨b, o, none⟩), .int .u64 x] w fun e w' => e = .returned (.tuple #[.int .i32 0, .bool false]) ∧ w' = w := by
  go_enter Ybad.func39, Ybad.ntmps39
  go_wp2_with fail
  refine bodyPost_ret (results_tmp2 rfl _ _ _) rfl ?_
  exact ⟨rfl, rfl⟩

/-- The lowest bit of a small word. -/
def tz (x : Nat) : Nat := ((List.range 6).find? (fun k => x.testBit k)).getD 6
theorem tz_word : ∀ x : Nat, x < 64 → 0 < x → tz x < 6 ∧ IntKind.u64.wrap (bits BinOp.and IntKind.u64 (x : Int) (IntKind.u64.wrap (-(x : Int))) * 285870213051353865) / 288230376151711744 = ((2 ^ tz x - 1 : Nat) : Int) := by decide +kernel
/-- What is read of the table of the package bits. -/
def Deb (w : World) : Prop := ∀ k : Nat, k < 6 → w.cell? ⟨0, 2 ^ k - 1, none⟩ = some (.int .u8 k)
theorem Deb.of_block {w w' : World} (h : Deb w) (hb : w'.heap[0]? = w.heap[0]?) : Deb w' := fun k hk => (World.cell?_of_block (a := ⟨0, 2 ^ k - 1, none⟩) (w := w) hb).trans (h k hk)
theorem pow6 : ∀ k : Nat, k < 6 → 2 ^ k - 1 < 64 := by decide

set_option maxHeartbeats 1000000 in
set_option maxRecDepth 100000 in
theorem tz_ok (w : World) (x : Nat) (hx : 0 < x) (h64 : x < 64) (hD : Deb w) :
    Calls Ybad.prog 38 #[.int .u64 x] w fun e w' => e = .returned (.int .i64 (tz x)) ∧ w' = w := by
  have hn : ((x : Int) == 0) = false := by rw [beq_eq_false_iff_ne]; omega
  obtain ⟨h6, hi⟩ := tz_word x h64 hx
  have hc := hD _ h6
  have hp := pow6 _ h6
  generalize tz x = t at *
  generalize 2 ^ t - 1 = p at *
  clear hD
  go_enter Ybad.func38, Ybad.ntmps38
  go_wp2_with fail
  go_ret
  exact ⟨rfl, rfl⟩
end Go.Proofs.YbulkbhcsDoor
