import Derived.Test.YbulkbhcsDoorClone
namespace Go.Proofs.YbulkbhcsDoor
open Go.RowKit
set_option maxHeartbeats 1000000 in
set_option maxRecDepth 100000 in
theorem equal_ok (w : World) (b b' n cap cap' : Nat) (zs : List Int) (h6 : n ≤ 6) (hc : ∀ i, i < n → w.cell? ⟨b, i, none⟩ = some (.int .i64 (zs.getD i 0))) (hc' : ∀ i, i < n → w.cell? ⟨b', i, none⟩ = some (.int .i64 (zs.getD i 0))) :
    Calls Ybad.prog 11 #[.slice (some ⟨b, 0, none⟩) n cap, .slice (some ⟨b', 0, none⟩) n cap'] w fun e w' => e = .returned (.bool true) ∧ Below w.heap.size w w' := by
  have H1 : Hid (∀ i, i < n → w.cell? ⟨b, i, none⟩ = some (.int .i64 (zs.getD i 0))) := hc
  have H2 : Hid (∀ i, i < n → w.cell? ⟨b', i, none⟩ = some (.int .i64 (zs.getD i 0))) := hc'
  clear hc hc'
  have hne : ((n : Int) != (n : Int)) = false := by simp
  go_enter Ybad.func11, Ybad.ntmps11
  go_wp2_with fail
  go_loopg [13] n (fun gh s13 wr => ∃ (i m : Nat), i ≤ n ∧ gh = n - i ∧ s13 = .int .i64 i ∧ wr = w.drewN m)
  case atStart => exact ⟨0, 0, by omega, by omega, rfl, rfl⟩
  case round =>
    obtain ⟨i, m, hi, rfl, rfl, rfl⟩ := hrel
    by_cases hlt : i < n
    · have l1 : (w.drewN m).cell? ⟨b, i, none⟩ = some (.int .i64 (zs.getD i 0)) := H1.out i hlt
      have l2 : (w.drewN m).cell? ⟨b', i, none⟩ = some (.int .i64 (zs.getD i 0)) := H2.out i hlt
      generalize zs.getD i 0 = z at *
      have hz : (z != z) = false := by simp
      have b1 : (i : Int) < (n : Int) := by omega
      have hbl := below_drewN (Below.refl w.heap.size w) m
      generalize hwm : w.drewN m = wm at *
      go_wp2_with fail
      go_quiet (fail)
      go_wp2_with fail
      go_roundg (n - (i + 1))
      case measure => omega
      case rel => exact ⟨i + 1, m + nq, by omega, rfl, by go_num, by rw [← hwm]; first | rfl | simp [World.drewN, Nat.add_assoc]⟩
    · obtain rfl : i = n := by omega
      go_wp2_with fail
      go_ret
      exact ⟨rfl, below_drewN (Below.refl _ _) _⟩
end Go.Proofs.YbulkbhcsDoor
