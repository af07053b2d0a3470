import Derived.Test.YbulkbhcsDoorEq
import Derived.Test.YbulkbhcsDoorDead
import Derived.StillTail
import Derived.StillTactics
namespace Go.Proofs.YbulkbhcsDoor
open Go.RowKit

/-- The slice v holds the rows xs, of n numbers each. -/
structure LLb (w : World) (n b cap : Nat) (v : Value) (xs : List (List Int)) : Prop where
  val : v = .slice (some ⟨b, 0, none⟩) xs.length cap
  le : xs.length ≤ cap
  rows : ∀ i, i < xs.length → ∃ r c, w.cell? ⟨b, i, none⟩ = some (.slice (some ⟨r, 0, none⟩) n c) ∧ ∀ j, j < n → w.cell? ⟨r, j, none⟩ = some (.int .i64 ((xs.getD i []).getD j 0))
def LL (w : World) (n : Nat) (v : Value) (xs : List (List Int)) : Prop := (v = .slice none 0 0 ∧ xs = []) ∨ ∃ b cap, LLb w n b cap v xs
theorem LL.below {w w' : World} {n : Nat} {v : Value} {xs : List (List Int)} (h : LL w n v xs) (hb : Below w.heap.size w w') : LL w' n v xs := by
  rcases h with h | ⟨b, cap, hv, hle, hr⟩
  · exact .inl h
  · refine .inr ⟨b, cap, hv, hle, fun i hi => ?_⟩
    obtain ⟨r, c, k1, k2⟩ := hr i hi
    exact ⟨r, c, (hb.cell (p := ⟨b, i, none⟩) (World.block_lt_of_cell? w _ k1)).trans k1, fun j hj => (hb.cell (p := ⟨r, j, none⟩) (World.block_lt_of_cell? w _ (k2 j hj))).trans (k2 j hj)⟩
set_option maxHeartbeats 1000000 in
set_option maxRecDepth 100000 in
theorem eqs_ok (w : World) (n : Nat) (h6 : n ≤ 6) (va vb : Value) (xs : List (List Int)) (hl : xs.length ≤ 1000) (ha : LL w n va xs) (hb : LL w n vb xs) :
    Calls Ybad.prog 9 #[va, vb] w fun e w' => e = .returned (.bool true) ∧ Below w.heap.size w w' := by
  rcases ha with ⟨rfl, rfl⟩ | ⟨ba, ca, rfl, _, hra⟩
  · rcases hb with ⟨rfl, _⟩ | ⟨bb, cb, rfl, _, hrb⟩
    · go_enter Ybad.func9, Ybad.ntmps9
      go_wp2_with fail
      go_loopg [13] 0 (fun gh s13 wr => s13 = .int .i64 0 ∧ wr = w)
      case atStart => exact ⟨rfl, rfl⟩
      case round =>
        obtain ⟨rfl, rfl⟩ := hrel
        go_wp2_with fail
        go_ret
        exact ⟨rfl, Below.refl _ _⟩
    · go_enter Ybad.func9, Ybad.ntmps9
      go_wp2_with fail
      go_loopg [13] 0 (fun gh s13 wr => s13 = .int .i64 0 ∧ wr = w)
      case atStart => exact ⟨rfl, rfl⟩
      case round =>
        obtain ⟨rfl, rfl⟩ := hrel
        go_wp2_with fail
        go_ret
        exact ⟨rfl, Below.refl _ _⟩
  · rcases hb with ⟨rfl, rfl⟩ | ⟨bb, cb, rfl, _, hrb⟩
    · go_enter Ybad.func9, Ybad.ntmps9
      go_wp2_with fail
      go_loopg [13] 0 (fun gh s13 wr => s13 = .int .i64 0 ∧ wr = w)
      case atStart => exact ⟨rfl, rfl⟩
      case round =>
        obtain ⟨rfl, rfl⟩ := hrel
        go_wp2_with fail
        go_ret
        exact ⟨rfl, Below.refl _ _⟩
    · obtain ⟨m, hm⟩ : ∃ m, xs.length = m := ⟨_, rfl⟩
      have HA : Hid (∀ _, _) := hra
      have HB : Hid (∀ _, _) := hrb
      clear hra hrb
      rw [hm] at hl ⊢
      go_enter Ybad.func9, Ybad.ntmps9
      go_wp2_with fail
      go_loopg [13] m (fun gh s13 wr => ∃ k : Nat, k ≤ m ∧ gh = m - k ∧ s13 = .int .i64 k ∧ Below w.heap.size w wr)
      case atStart => exact ⟨0, by omega, by omega, rfl, Below.refl _ _⟩
      case round =>
        obtain ⟨k, hk, rfl, rfl, hB⟩ := hrel
        by_cases hlt : k < m
        · obtain ⟨r, c, a1, a2⟩ := HA.out k (by omega)
          obtain ⟨r', c', b1, b2⟩ := HB.out k (by omega)
          have a3 := (hB.cell (p := ⟨ba, k, none⟩) (World.block_lt_of_cell? w _ a1)).trans a1
          have b3 := (hB.cell (p := ⟨bb, k, none⟩) (World.block_lt_of_cell? w _ b1)).trans b1
          have a4 : ∀ j, j < n → wr.drew.cell? ⟨r, j, none⟩ = some (.int .i64 ((xs.getD k []).getD j 0)) := fun j hj => (hB.cell (p := ⟨r, j, none⟩) (World.block_lt_of_cell? w _ (a2 j hj))).trans (a2 j hj)
          have b4 : ∀ j, j < n → wr.drew.cell? ⟨r', j, none⟩ = some (.int .i64 ((xs.getD k []).getD j 0)) := fun j hj => (hB.cell (p := ⟨r', j, none⟩) (World.block_lt_of_cell? w _ (b2 j hj))).trans (b2 j hj)
          have H11 : Hid (Calls Ybad.prog 11 _ _ _) := equal_ok wr.drew r r' n c c' (xs.getD k []) h6 a4 b4
          replace a3 : wr.drew.cell? _ = _ := a3
          replace b3 : wr.drew.cell? _ = _ := b3
          have hB2 := hB.drew
          have q1 : (k : Int) < (m : Int) := by omega
          clear a1 a2 a4 b1 b2 b4
          go_upto_region 6 with fail
          refine wp_region_still_tail 8 rfl (by kernel_rfl) ?_
          change wpStill _ _ wr.drew (fun a' => wpList _ _ _ _ a' wr.drew) _ _
          generalize wr.drew = w5 at *
          simp only [List.take_succ_cons, List.take_zero, List.drop_succ_cons, List.drop_zero]
          repeat still_step
          refine wpStill_nil ?_
          go_wp2_with (go_at_call 11; refine H11.out.mono ?_; rintro e w6 ⟨rfl, hb6⟩)
          go_roundg (m - (k + 1))
          case measure => omega
          case rel => exact ⟨k + 1, by omega, rfl, by go_num, hB2.trans (hb6.mono hB2.size)⟩
        · obtain rfl : k = m := by omega
          go_wp2_with fail
          go_ret
          exact ⟨rfl, hB⟩
end Go.Proofs.YbulkbhcsDoor
