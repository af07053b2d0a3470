import Derived.Test.YbulkbhcsRows
import Derived.WalkKit
import Derived.Deep.DeepCutAuto
import Derived.Deep.Light
namespace Go.Proofs.Ybulkbhcs
open Go.RowKit

set_option maxHeartbeats 1000000 in
set_option maxRecDepth 100000 in
theorem until_law (a0 : Int) (a1 : ByteArray) (a2 a3 a4 : Int) (a5 : Bool) (a6 a7 : Int) (a8 : Option Addr) (len cap : Nat) (a9 : Int) (w : World) (h0 : 0 ≤ a0) (h0' : a0 ≤ 255) (h2 : 0 ≤ a2) (h2' : a2 ≤ 4294967295) (hl : len ≤ 1048576)
    (hc : ∀ i, i < len → ∃ b off v, a8 = some ⟨b, off, none⟩ ∧ w.cell? ⟨b, off + i, none⟩ = some (.int .i32 v)) :
    Calls Yba.prog 3 #[.int .u8 a0, .string a1, .int .u32 a2, .int .i32 a3, .int .i32 a4, .bool a5, .int .i32 a6, .int .i32 a7, .slice a8 len cap, .int .i32 a9] w fun e w' => e = .returned (.bool true) ∧ Below w.heap.size w w' := by
  have HC : Hid (∀ i, i < len → ∃ b off v, a8 = some ⟨b, off, none⟩ ∧ w.cell? ⟨b, off + i, none⟩ = some (.int .i32 v)) := hc
  clear hc
  go_enter Yba.func3, Yba.ntmps3
  go_upto_if 34 with fail
  go_cut [21] from 28 to 43 (fun a21 wd => ∃ (a : Option Addr) (N c : Nat), a21 = .slice a N c ∧ 1 ≤ N ∧ N ≤ 1048576 ∧ (∀ i, i < N → ∃ b off v, a = some ⟨b, off, none⟩ ∧ wd.cell? ⟨b, off + i, none⟩ = some (.int .i32 v)) ∧ Below w.heap.size w wd)
  case first =>
    by_cases hz : len = 0
    · subst hz
      go_wp2_with fail
      go_meet
      go_light
      refine ⟨_, 1, 1, rfl, by omega, by omega, fun i hi => ?_, (Below.refl _ _).alloc (Nat.le_refl _) _⟩
      obtain rfl : i = 0 := by omega
      exact ⟨_, _, a9, rfl, by simp⟩
    · have hz' : ((len : Int) == 0) = false := by rw [beq_eq_false_iff_ne]; omega
      go_wp2_with fail
      go_meet
      exact ⟨_, len, _, rfl, by omega, hl, HC.out, Below.refl _ _⟩
  case rest =>
    obtain ⟨a, N, c, rfl, hN1, hN2, hcN, hbel⟩ := hcut
    have HCN : Hid (∀ i, i < N → ∃ b off v, a = some ⟨b, off, none⟩ ∧ wc.cell? ⟨b, off + i, none⟩ = some (.int .i32 v)) := hcN
    have m1 : 0 ≤ a2 % (N : Int) := Int.emod_nonneg _ (by omega)
    have m2 : a2 % (N : Int) < (N : Int) := Int.emod_lt_of_pos _ (by omega)
    clear hcN
    go_upto_if 44 with fail
    go_cut [23] from 45 to 47 (fun a23 wd => ∃ fw : Int, a23 = .int .i32 fw ∧ (fw != 2147483647) = a5 ∧ wd = wc)
    case first =>
      cases a5 with
      | false =>
        go_wp2_with fail
        go_meet
        exact ⟨_, rfl, by decide, rfl⟩
      | true =>
        by_cases h : a6 = 2147483647
        · have h' : (a6 == 2147483647) = true := by simp [h]
          clear h
          go_wp2_with fail
          go_meet
          exact ⟨_, rfl, by decide, rfl⟩
        · have h' : (a6 == 2147483647) = false := by simp [h]
          go_wp2_with fail
          go_meet
          exact ⟨_, rfl, by simp [h], rfl⟩
    case rest =>
      obtain ⟨fw, rfl, hfw, rfl⟩ := hcut
      obtain ⟨n, hn⟩ : ∃ n : Nat, a2 % (N : Int) = n := ⟨_, (Int.toNat_of_nonneg m1).symm⟩
      rw [hn] at m2 ⊢
      obtain ⟨b, off, v, rfl, hcell⟩ := HCN.out n (by omega)
      clear hn m1 HCN HC
      have m3 : (n : Int) ≤ 1048576 := by omega
      have hb := World.block_lt_of_cell? wc _ hcell
      dsimp only at hb
      have hbN : b ≠ wc.heap.size := by omega
      obtain ⟨q, hq, hq4⟩ : ∃ q : Nat, a0 % 4 = q ∧ q < 4 := ⟨(a0 % 4).toNat, by omega, by omega⟩
      have hend : Below w.heap.size w (wc.alloc (.cells #[.string a1, .int .i32 n, .int .i32 a3, .int .i32 a4, .int .i32 fw, .int .i32 a7] 27)) := hbel.alloc hbel.size _
      match q, hq4 with
      | 0, _ =>
        go_wp2
        go_ret
        exact ⟨rfl, hend⟩
      | 1, _ =>
        cases a5 with
        | false =>
          go_wp2
          go_ret
          exact ⟨rfl, hend⟩
        | true =>
          go_wp2
          go_ret
          exact ⟨rfl, hend⟩
      | 2, _ =>
        go_wp2
        go_ret
        exact ⟨rfl, hend⟩
      | 3, _ =>
        go_wp2
        go_ret
        exact ⟨rfl, hend⟩

set_option maxRecDepth 100000 in
theorem until_long (a0 : Int) (a1 : ByteArray) (a2 a3 a4 : Int) (a5 : Bool) (a6 a7 : Int) (a8 : Option Addr) (len cap : Nat) (a9 : Int) (w : World) (hl : 1048576 < len) (hm : len ≤ maxLen) :
    Calls Yba.prog 3 #[.int .u8 a0, .string a1, .int .u32 a2, .int .i32 a3, .int .i32 a4, .bool a5, .int .i32 a6, .int .i32 a7, .slice a8 len cap, .int .i32 a9] w fun e w' => e = .returned (.bool true) ∧ Below w.heap.size w w' := by
  unfold maxLen at hm
  go_enter Yba.func3, Yba.ntmps3
  go_wp2
  go_ret
  exact ⟨rfl, Below.refl _ _⟩
end Go.Proofs.Ybulkbhcs
