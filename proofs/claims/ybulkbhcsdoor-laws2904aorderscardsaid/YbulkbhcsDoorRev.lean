import Derived.Test.YbulkbhcsDoorPermDef
import Derived.Test.YbulkbhcsDoorDead
namespace Go.Proofs.YbulkbhcsDoor
open Go.RowKit
set_option maxHeartbeats 1000000 in
set_option maxRecDepth 100000 in
theorem reverse_ok (w : World) (b off m cap : Nat) (p : List Nat) (hr : Row w b 3 .i64 (nz p)) (hm : off + m ≤ p.length) (h6 : m ≤ 6) :
    Calls Ybad.prog 12 #[.slice (some ⟨b, off, none⟩) m cap] w fun e w' => (∃ x, e = .returned x) ∧ Row w' b 3 .i64 (nz (rv off m (m / 2) p)) ∧ Upd [b] w w' := by
  go_enter Ybad.func12, Ybad.ntmps12
  go_wp2_with fail
  go_loopg [2, 3] (m / 2) (fun gh s2 s3 wr => ∃ t : Nat, t ≤ m / 2 ∧ gh = m / 2 - t ∧ s2 = .int .i64 t ∧ s3 = .int .i64 ((m : Int) - 1 - t) ∧ Row wr b 3 .i64 (nz (rv off m t p)) ∧ Upd [b] w wr)
  case atStart => exact ⟨0, by omega, by omega, rfl, by simp, hr, Upd.refl _ _⟩
  case round =>
    obtain ⟨t, ht, rfl, rfl, rfl, hr2, hU⟩ := hrel
    clear hr
    have hlen := rv_len off m t p
    by_cases hlt : t < m / 2
    · obtain ⟨j, hj⟩ : ∃ j, m - 1 - t = j := ⟨_, rfl⟩
      have hj1 : (m : Int) - 1 - (t : Int) = (j : Int) := by omega
      rw [hj1]
      have c1 := hr2.cell (i := off + t) (by rw [nz_len]; omega)
      have c2 := hr2.cell (i := off + j) (by rw [nz_len]; omega)
      rw [nz_get] at c1 c2
      have f1 := hr2.free (off + t)
      have f2 := hr2.free (off + j)
      have hS : Row ((wr.setCell ⟨b, off + t, none⟩ (.int .i64 (((rv off m t p).getD (off + j) 0 : Nat) : Int))).setCell ⟨b, off + j, none⟩ (.int .i64 (((rv off m t p).getD (off + t) 0 : Nat) : Int))) b 3 .i64 (nz (rv off m (t + 1) p)) := by
        have := (hr2.set (off + t) (((rv off m t p).getD (off + j) 0 : Nat) : Int)).set (off + j) (((rv off m t p).getD (off + t) 0 : Nat) : Int)
        rw [nz_set, nz_set] at this
        rw [rv, swp, hj]
        exact this
      generalize (rv off m t p).getD (off + t) 0 = x at *
      generalize (rv off m t p).getD (off + j) 0 = y at *
      have HS : Hid (Row _ _ _ _ _) := hS
      have hU2 : Upd [b] w ((wr.setCell ⟨b, off + t, none⟩ (.int .i64 (y : Int))).setCell ⟨b, off + j, none⟩ (.int .i64 (x : Int))) := (hU.setCell (by simp) _).setCell (by simp) _
      have b1 : (t : Int) < (m : Int) := by omega
      have b2 : (j : Int) < (m : Int) := by omega
      have b3 : (t : Int) < (j : Int) := by omega
      clear hS
      go_upto_region 3 with fail
      go_region
      go_wp2_with fail
      go_roundg (m / 2 - (t + 1))
      case measure => omega
      case rel => exact ⟨t + 1, by omega, rfl, by go_num, congrArg (Value.int IntKind.i64) (by omega), HS.out, hU2.drew⟩
    · have b3 : ¬ (t : Int) < (m : Int) - 1 - (t : Int) := by omega
      obtain rfl : t = m / 2 := by omega
      go_wp2_with fail
      go_end0
      exact ⟨⟨_, rfl⟩, hr2, hU⟩
end Go.Proofs.YbulkbhcsDoor
