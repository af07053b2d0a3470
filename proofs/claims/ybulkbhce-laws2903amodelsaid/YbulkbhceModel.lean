import Derived.Test.YbulkbhceStr
import Derived.Deep.LoopGhost
namespace Go.Proofs.Ybulkbhce
open Go.RowKit

set_option maxHeartbeats 1000000 in
set_option maxRecDepth 100000 in
theorem model_none (a : Option Addr) (cap : Nat) (w : World) :
    Calls Yba.prog 3 #[.slice a 0 cap] w fun e w' => e = .returned (.bool true) ∧ Below w.heap.size w w' := by
  have hnil := eql_nil
  go_enter Yba.func3, Yba.ntmps3
  go_wp2_with (first
    | (go_at_call 5; refine (cut_none a cap _).mono ?_; rintro e w1 ⟨rfl, hb⟩)
    | (refine wpList_store24 rfl (.tmp 5) (.tmp 22) rfl w1.heap.size rfl zero32 zero32 rfl rfl (by decide) (by exact (Dig.new w1).dg) w.heap.size w (by exact hb.alloc hb.size _) hb.size ?_; intro w2 hd2 hb2 hz2)
    | (refine wpList_load24 rfl (.tmp 5) rfl w1.heap.size rfl zero32 (by exact hd2) ?_)
    | (refine wpList_eql24 rfl (.tmp 49) (.tmp 50) 24 rfl zero32.toArray rfl rfl bytes32_zero ?_))
  go_ret
  exact ⟨rfl, hb2⟩

set_option maxHeartbeats 1000000 in
set_option maxRecDepth 100000 in
theorem model_short (g off n cap : Nat) (d : Int) (w : World) (hn1 : 1 ≤ n) (hm : n ≤ 1024) (hd : By d) (hs : (n : Int) < 41 + d) (hc : w.cell? ⟨g, off, none⟩ = some (.int .u8 d)) :
    Calls Yba.prog 3 #[.slice (some ⟨g, off, none⟩) n cap] w fun e w' => e = .returned (.bool true) ∧ Below w.heap.size w w' := by
  have hnil := eql_nil
  have hg := World.block_lt_of_cell? w _ hc
  have hd' := hd
  obtain ⟨hd1, hd2'⟩ := hd'
  dsimp only at hg
  go_enter Yba.func3, Yba.ntmps3
  go_wp2_with (first
    | (go_at_call 5; refine (cut_short g off n cap d _ hn1 (by unfold maxLen; omega) hd hs hc).mono ?_; rintro e w1 ⟨rfl, hb⟩)
    | (refine wpList_store24 rfl (.tmp 5) (.tmp 22) rfl w1.heap.size rfl zero32 zero32 rfl rfl (by decide) (by exact (Dig.new w1).dg) w.heap.size w (by exact hb.alloc hb.size _) hb.size ?_; intro w2 hd2 hb2 hz2; have hc2 := (hb2.cell (p := ⟨g, off, none⟩) hg).trans hc; clear hz2)
    | (refine wpList_load24 rfl (.tmp 5) rfl w1.heap.size rfl zero32 (by exact hd2) ?_)
    | (refine wpList_eql24 rfl (.tmp 49) (.tmp 50) 24 rfl zero32.toArray rfl rfl bytes32_zero ?_))
  go_ret
  exact ⟨rfl, hb2⟩

set_option maxHeartbeats 1000000 in
set_option maxRecDepth 100000 in
theorem model_ok (g off r cap m : Nat) (D : Nat → Int) (w : World) (hm : m + 41 + r ≤ cap) (hn : m + 41 + r ≤ 1024) (hD : ∀ i, i < m + 41 + r → By (D i)) (hd0 : D 0 = m) (hc : ∀ i, i < m + 41 + r → w.cell? ⟨g, off + i, none⟩ = some (.int .u8 (D i))) :
    Calls Yba.prog 3 #[.slice (some ⟨g, off, none⟩) (m + 41 + r : Nat) cap] w fun e w' => e = .returned (.bool true) ∧ Below w.heap.size w w' := by
  have hsome := eql_some
  have c0 := hc 0 (by omega)
  simp only [Nat.add_zero, hd0] at c0
  have hg := World.block_lt_of_cell? w _ c0
  dsimp only at hg
  have hm2 : m ≤ 255 := by have := (hD 0 (by omega)).2; omega
  have HC : Hid (∀ i, i < m + 41 + r → w.cell? ⟨g, off + i, none⟩ = some (.int .u8 (D i))) := hc
  have HD : Hid (∀ i, i < m + 41 + r → By (D i)) := hD
  have H0 : Hid (D 0 = m) := hd0
  have hsz := strOf_size D 1 m
  have hget : Hid (∀ i, i < m → ∀ h, (((strOf D 1 m)[i]'h).toNat : Int) = D (1 + i)) := fun i hi h => strOf_get D 1 m i hi (hD _ (by omega)) h
  have hcut := fun w' hcc => cut_ok' g off r cap m D w' hm hD hd0 hcc
  have HCUT : Hid (∀ w', _ → _) := hcut
  clear hc hD hd0 hcut
  obtain ⟨S0, hS0⟩ : ∃ S0, strOf D 1 m = S0 := ⟨_, rfl⟩
  rw [hS0] at hsz hget HCUT
  clear hS0
  obtain ⟨EP, hEP⟩ : ∃ EP, be8 (fun i => D (1 + m + i)) = EP := ⟨_, rfl⟩
  have HEP : Hid (hor D (1 + m) 8 = EP) := (hor_eight D (1 + m)).trans hEP
  rw [hEP] at HCUT
  clear hEP
  have hl := cellsAt_length D (m + 9) 32
  have h1 := cellsAt_one D (m + 9) 32
  have HL : Hid (_ = _) := hl
  have hq0 : ((m : Int) + 41 + (r : Int) == 0) = false := by rw [beq_eq_false_iff_ne]; omega
  have hq1 : decide ((m : Int) + 41 + (r : Int) < 41 + (m : Int)) = false := by simp; omega
  have hne : ((m : Int) != 1 + (m : Int) - 1) = false := by simp; omega
  have H1 : Hid (∀ v ∈ cellsAt D (m + 9) 32, _) := h1
  clear hl h1
  go_enter Yba.func3, Yba.ntmps3
  go_wp2_with (first
    | (go_at_call 5; refine (HCUT.out _ HC.out).mono ?_; rintro e w1 ⟨x, rfl, hx, hb⟩; have HX : Hid (0 < r → x = ⟨g, off + (m + 41), none⟩) := hx; clear hx)
    | (refine wpList_store24 rfl (.tmp 5) (.tmp 22) rfl w1.heap.size rfl (cellsAt D (m + 9) 32) zero32 rfl HL.out H1.out (by exact (Dig.new w1).dg) w.heap.size w (by exact hb.alloc hb.size _) hb.size ?_; intro w2 hd2 hb2 hz2; have hc2 := (hb2.cell (p := ⟨g, off, none⟩) hg).trans c0; clear hz2))
  generalize w1.heap.size = b5 at *
  go_loopg [9] m (fun gg s9 wr => ∃ i : Nat, i ≤ m ∧ gg = m - i ∧ s9 = .int .i64 i ∧ Dg wr b5 (cellsAt D (m + 9) 32) ∧ Below w.heap.size w wr)
  case atStart => exact ⟨0, by omega, by omega, rfl, hd2, hb2⟩
  case round =>
    obtain ⟨i, hi, rfl, rfl, hd3, hb3⟩ := hrel
    clear hd2 hb2 hc2
    by_cases hlt : i < m
    · have hlt' : i < S0.size := by omega
      have hgt := hget.out i hlt hlt'
      have l0 := (hb3.cell (p := ⟨g, off + (1 + i), none⟩) hg).trans (HC.out (1 + i) (by omega))
      have i1 : (1 : Int) + (i : Int) < (m : Int) + 41 + (r : Int) := by omega
      go_wp2_with fail
      go_quiet (fail)
      go_wp2_with fail
      go_roundg (m - (i + 1))
      case measure => omega
      case rel => exact ⟨i + 1, by omega, rfl, by go_num, hd3.drewN _, below_drewN hb3 _⟩
    · obtain rfl : i = m := by omega
      clear hget
      go_wp2_with fail
      go_loopg [10, 11] 8 (fun gg s10 s11 wx => ∃ j : Nat, j ≤ 8 ∧ gg = 8 - j ∧ s11 = .int .i64 j ∧ s10 = .int .u64 (hor D (1 + i) j) ∧ wx = wr)
      case atStart => exact ⟨0, by omega, by omega, rfl, rfl, rfl⟩
      case round =>
        obtain ⟨j, hj, rfl, rfl, rfl, rfl⟩ := hrel
        by_cases hlt2 : j < 8
        · have l0 := (hb3.cell (p := ⟨g, off + (1 + i + j), none⟩) hg).trans (HC.out (1 + i + j) (by omega))
          obtain ⟨q1, q2⟩ := hor_small D (1 + i) j hlt2 (fun t ht => HD.out _ (by omega))
          have hor' := or_low q1 q2 (HD.out (1 + i + j) (by omega))
          obtain ⟨q3, q4⟩ := HD.out (1 + i + j) (by omega)
          have HR : Hid (hor D (1 + i) (j + 1) = hor D (1 + i) j * 256 + D (1 + i + j)) := rfl
          go_wp2
          go_roundg (8 - (j + 1))
          case measure => omega
          case rel => exact ⟨j + 1, by omega, rfl, by go_num, by rw [HR.out], rfl⟩
        · obtain rfl : j = 8 := by omega
          rw [HEP.out]
          clear HEP
          go_wp2_with fail
          generalize ((8 : Nat) : Int) = e8
          go_loopg [12] 32 (fun gg s12 wr => ∃ k : Nat, k ≤ 32 ∧ gg = 32 - k ∧ s12 = .int .i64 k ∧ Dg wr b5 (cellsAt D (i + 9) 32) ∧ Below w.heap.size w wr)
          case atStart => exact ⟨0, by omega, by omega, rfl, hd3, hb3⟩
          case round =>
            obtain ⟨k, hk, rfl, rfl, hd4, hb4⟩ := hrel
            clear hd3 hb3
            by_cases hlt3 : k < 32
            · have l0 := (hb4.cell (p := ⟨g, off + (1 + i + 8 + k), none⟩) hg).trans (HC.out (1 + i + 8 + k) (by omega))
              have l1 := hd4.cell hlt3
              rw [show i + 9 + k = 1 + i + 8 + k from by omega] at l1
              have i2 : (1 : Int) + (i : Int) + 8 + (k : Int) < (i : Int) + 41 + (r : Int) := by omega
              go_wp2_with fail
              go_quiet (fail)
              go_wp2_with fail
              go_roundg (32 - (k + 1))
              case measure => omega
              case rel => exact ⟨k + 1, by omega, rfl, by go_num, hd4.drewN _, below_drewN hb4 _⟩
            · obtain rfl : k = 32 := by omega
              have hqr : ((r : Int) != (i : Int) + 41 + (r : Int) - (1 + (i : Int)) - 40) = false := by simp; omega
              go_wp2_with fail
              generalize ((32 : Nat) : Int) = e32
              go_loopg [13] r (fun gg s13 wr => ∃ k : Nat, k ≤ r ∧ gg = r - k ∧ s13 = .int .i64 k ∧ Below w.heap.size w wr)
              case atStart => exact ⟨0, by omega, by omega, rfl, hb4⟩
              case round =>
                obtain ⟨k, hk, rfl, rfl, hb5⟩ := hrel
                clear hd4 hb4
                by_cases hlt4 : k < r
                · obtain rfl := HX.out (by omega)
                  have l0 := (hb5.cell (p := ⟨g, off + (1 + i + 40 + k), none⟩) hg).trans (HC.out (1 + i + 40 + k) (by omega))
                  have l1 := l0
                  rw [show off + (1 + i + 40 + k) = off + (i + 41) + k from by omega] at l1
                  have i2 : (1 : Int) + (i : Int) + 40 + (k : Int) < (i : Int) + 41 + (r : Int) := by omega
                  go_wp2_with fail
                  go_quiet (fail)
                  go_wp2_with fail
                  go_roundg (r - (k + 1))
                  case measure => omega
                  case rel => exact ⟨k + 1, by omega, rfl, by go_num, below_drewN hb5 _⟩
                · obtain rfl : k = r := by omega
                  go_wp2
                  go_ret
                  exact ⟨rfl, hb5⟩

set_option maxRecDepth 100000 in
theorem model_long (a : Option Addr) (n cap : Nat) (w : World) (hn : 1024 < n) (hm : n ≤ maxLen) :
    Calls Yba.prog 3 #[.slice a n cap] w fun e w' => e = .returned (.bool true) ∧ Below w.heap.size w w' := by
  unfold maxLen at hm
  go_enter Yba.func3, Yba.ntmps3
  go_wp2
  go_ret
  exact ⟨rfl, Below.refl _ _⟩
end Go.Proofs.Ybulkbhce
