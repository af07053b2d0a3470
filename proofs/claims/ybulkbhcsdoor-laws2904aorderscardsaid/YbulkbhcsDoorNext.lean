import Derived.Test.YbulkbhcsDoorMem
namespace Go.Proofs.YbulkbhcsDoor
open Go.RowKit

/-- The lowest member from v on; -1: none. -/
def nxt (F v : Nat) : Int := if F / 2 ^ v = 0 then -1 else (tz (F / 2 ^ v * 2 ^ v) : Int)
theorem shl_word : ∀ F : Nat, F < 64 → ∀ v : Nat, v < 7 → F / 2 ^ v ≠ 0 → IntKind.u64.wrap ((F : Int) / 2 ^ v * 2 ^ v) = ((F / 2 ^ v * 2 ^ v : Nat) : Int) ∧ 0 < F / 2 ^ v * 2 ^ v ∧ F / 2 ^ v * 2 ^ v < 64 ∧ tz (F / 2 ^ v * 2 ^ v) < 6 := by decide +kernel

set_option maxHeartbeats 1000000 in
set_option maxRecDepth 100000 in
theorem next_ok (w : World) (bs bl bw cap F v : Nat) (hv : v < 7) (hF : F < 64) (h : NS w bs bl bw cap F) (hD : Deb w) :
    Calls Ybad.prog 33 #[.pointer (some ⟨bs, 0, none⟩), .int .i64 v] w fun e w' => e = .returned (.int .i64 (nxt F v)) ∧ w' = w := by
  have c0 := h.c0
  have c1 := h.c1
  have c2 := h.c2.cell (i := 0) (by simp)
  simp at c2
  have hconv : IntKind.u64.wrap (v : Int) = (v : Int) := by rw [IntKind.wrap_u64]; omega
  have hq : (v : Int) / 64 = 0 := by omega
  have hr : (v : Int) % 64 = (v : Int) := by omega
  by_cases hz : F / 2 ^ v = 0
  · have hz' : (((F : Int) / 2 ^ v) != 0) = false := by
      have : ((F : Int) / 2 ^ v) = ((F / 2 ^ v : Nat) : Int) := by simp
      rw [this, hz]; rfl
    have hN : nxt F v = -1 := by rw [nxt, if_pos hz]
    rw [hN]
    clear hN
    go_enter Ybad.func33, Ybad.ntmps33
    go_wp2_with fail
    go_loopg [5, 6] 1 (fun g s5 s6 wr => wr = w ∧ ((g = 1 ∧ s5 = .int .u64 v ∧ s6 = .int .i64 0) ∨ (g = 0 ∧ s5 = .int .u64 1 ∧ s6 = .int .i64 1)))
    case atStart => exact ⟨rfl, .inl ⟨rfl, by first | rfl | (rw [hconv]), rfl⟩⟩
    case round =>
      rcases hrel with ⟨rfl, ⟨rfl, rfl, rfl⟩ | ⟨rfl, rfl, rfl⟩⟩
      · go_wp2_with fail
        go_roundg 0
        case measure => omega
        case rel => exact ⟨rfl, .inr ⟨rfl, rfl, rfl⟩⟩
      · go_wp2_with fail
        go_ret
        exact ⟨rfl, rfl⟩
  · have hz' : (((F : Int) / 2 ^ v) != 0) = true := by
      have : ((F : Int) / 2 ^ v) = ((F / 2 ^ v : Nat) : Int) := by simp
      rw [this, bne_iff_ne]; omega
    have hN : nxt F v = (tz (F / 2 ^ v * 2 ^ v) : Int) := by rw [nxt, if_neg hz]
    rw [hN]
    clear hN
    obtain ⟨k1, k2, k3, k4⟩ := shl_word F hF v hv hz
    generalize F / 2 ^ v * 2 ^ v = X at *
    have T : Hid (Calls Ybad.prog 38 #[.int .u64 X] w fun e w' => e = .returned (.int .i64 (tz X)) ∧ w' = w) := tz_ok w X k2 k3 hD
    clear hD
    generalize tz X = t at *
    have ht1 : IntKind.u64.wrap (t : Int) = (t : Int) := by rw [IntKind.wrap_u64]; omega
    have ht2 : IntKind.i64.wrap (t : Int) = (t : Int) := by rw [IntKind.wrap_i64]; omega
    go_enter Ybad.func33, Ybad.ntmps33
    go_wp2_with fail
    go_loopg [5, 6] 1 (fun g s5 s6 wr => wr = w ∧ g = 1 ∧ s5 = .int .u64 v ∧ s6 = .int .i64 0)
    case atStart => exact ⟨rfl, rfl, by first | rfl | (rw [hconv]), rfl⟩
    case round =>
      obtain ⟨rfl, rfl, rfl, rfl⟩ := hrel
      go_wp2_with (go_at_call 38; refine T.out.mono ?_; rintro e w' ⟨rfl, rfl⟩)
      go_loopg [5, 6] 1 (fun g s5 s6 wx => wx = w' ∧ s5 = .int .u64 t ∧ s6 = .int .i64 (-1))
      case atStart => exact ⟨rfl, by first | rfl | (rw [ht1]) | simp [ht1], rfl⟩
      case round =>
        obtain ⟨rfl, rfl, rfl⟩ := hrel
        go_wp2_with fail
        go_ret
        exact ⟨rfl, rfl⟩
end Go.Proofs.YbulkbhcsDoor
