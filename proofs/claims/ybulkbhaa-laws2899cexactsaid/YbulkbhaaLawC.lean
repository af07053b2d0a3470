import Derived.Test.YbulkbhaaArr
import Derived.Test.YbulkbhaaRun
import Derived.OwnWalk
import Derived.Deep.QuietTactic
import Derived.BigQuiet
namespace Go.Proofs.Ybulkbhaa
open Go.RowKit

theorem info2 : (Yba.prog.info? 2).map (fun i => (i.zero, i.size, i.bytes)) = some (some (.int .i64 0), 1, 8) := by kernel_rfl
theorem info31 : (Yba.prog.info? 31).map (fun i => (i.zero, i.size, i.bytes)) = some (some (.agg #[.int .i64 0, .int .u64 0]), 2, 16) := by kernel_rfl

set_option maxRecDepth 100000 in
set_option maxHeartbeats 1500000 in
theorem law_c (a0 a1 a2 : Int) (a3 : Option Addr) (n cap : Nat) (Z : Nat → Int) (w : World) (w0 : In64 a0) (w1 : In64 a1) (w2 : In64 a2) (hn : n ≤ 1024) (hZ : ∀ i, i < n → In64 (Z i))
    (hc : ∀ i, i < n → ∃ b off, a3 = some ⟨b, off, none⟩ ∧ w.cell? ⟨b, off + i, none⟩ = some (.int .i64 (Z i))) :
    Calls Yba.prog 5 #[.int .i64 a0, .int .i64 a1, .int .i64 a2, .slice a3 n cap] w fun e w' => e = .returned (.bool true) ∧ Below w.heap.size w w' := by
  obtain ⟨i0, hi0, hz00, hz01, hz02⟩ := info_parts info2
  obtain ⟨i1, hi1, hz10, hz11, hz12⟩ := info_parts info31
  go_enter Yba.func5, Yba.ntmps5
  go_wp2_with (first
    | (at_make; refine wpList_make_full _ rfl (.tmp 36) (.tmp 36) 26 rfl w.heap.size 2 i0 (.int .i64 0) 1 Yba.underlying26 hi0 hz00 hz01 .i64 .i64 n n n rfl rfl rfl rfl (by rw [hz02]; omega) (by unfold maxLen; omega) (Nat.le_refl _) ?_; intro v1 hown1 hgrow1)
    | (at_make; refine wpList_make_full _ rfl (.tmp 39) (.tmp 39) 28 rfl v1.heap.size 31 i1 (.agg #[.int .i64 0, .int .u64 0]) 2 Yba.underlying28 hi1 hz10 hz11 .i64 .i64 n n n rfl rfl rfl rfl (by rw [hz12]; omega) (by unfold maxLen; omega) (Nat.le_refl _) ?_; intro v2 hown2 hgrow2))
  obtain ⟨E, hEq⟩ : ∃ E : Nat → Int, ∀ i, Z i / 8388608 = E i := ⟨_, fun _ => rfl⟩
  have HEq : Hid (∀ i, Z i / 8388608 = E i) := hEq
  clear hEq
  have hA0 := Arr.make E hown1 hgrow1 hown2 hgrow2
  clear hown1 hgrow1 hown2 hgrow2
  go_loopg [14] n (fun g s14 wr => ∃ k : Nat, k ≤ n ∧ g = n - k ∧ s14 = .int .i64 k ∧ Arr w wr w.heap.size v1.heap.size n k k E)
  case atStart => exact ⟨0, by omega, by omega, rfl, hA0⟩
  case round =>
    obtain ⟨k, hk, rfl, rfl, hA⟩ := hrel
    clear hA0
    by_cases hlt : k < n
    · obtain ⟨b, off, rfl, hcell⟩ := hc k hlt
      have hbt := World.block_lt_of_cell? w _ hcell
      have e0 := (hA.below.cell (p := ⟨b, off + k, none⟩) hbt).trans hcell
      obtain ⟨v, hv⟩ := hA.es.any hlt
      have hf := hA.es.free k
      have hek := HEq.out k
      clear hcell hc
      go_upto_region 12 with fail
      have hA' := hA.setE hlt
      clear e0 hv hf hA

      generalize wr.setCell ⟨w.heap.size, k, none⟩ (.int .i64 (E k)) = wd at hA' ⊢
      have l0 := hA'.es.cell (i := k) (by omega)
      go_wp2_with (go_at_call 9; refine (wide_any _ _).mono ?_; rintro e w' ⟨rfl, c1, rfl⟩; have hA2 := hA'.alloc (.cells c1 31); generalize wd.alloc (.cells c1 31) = wf at hA2 ⊢; obtain ⟨t0, ht0⟩ := hA2.tb.any (i := k * 2) (by omega); obtain ⟨t1, ht1⟩ := hA2.tb.any (i := k * 2 + 1) (by omega); have f0 := hA2.tb.free (k * 2); have f1 := hA2.tb.free (k * 2 + 1))
      go_roundg (n - (k + 1))
      case measure => omega
      case rel => exact ⟨k + 1, by omega, rfl, by go_num, hA2.setT hlt⟩
    · obtain rfl : k = n := by omega
      have st0 := Ok.start w0 w1 w2
      have hE : ∀ i, i < k → OkE (E i) := fun i hi => by rw [← HEq.out i]; exact OkE.of (hZ i hi)
      generalize a0 / 16 = x at *
      generalize a1 / 16 = y at *
      generalize a2 / 8388608 = z at *
      clear hc hlt HEq
      go_wp2_with (go_at_call 9; refine (wide_any _ _).mono ?_; rintro e w' ⟨rfl, c1, rfl⟩; have hA := hA.alloc (.cells c1 31))
      have hA4 := hA.alloc (.cells #[.int .i64 (hi x), .int .u64 (lo x), .int .i64 (hi y), .int .u64 (lo y), .int .i64 (hi z), .int .u64 (lo z)] 34)
      refine (runs x y z v1.heap.size k k E _ hn st0 hE (fun i hi => ⟨hA4.tb.c0 hi, hA4.tb.c1 hi⟩)).mono ?_
      rintro e wh ⟨rfl, hb⟩
      have hA5 := hA4.on hb
      clear hb hA4 hA
      have hF0 := Fin.make hA5 (run E (x, y, z) k)
      go_wp2_with fail
      generalize wh.alloc (.cells #[.int .i64 (hi (run E (x, y, z) k).1), .int .u64 (lo (run E (x, y, z) k).1), .int .i64 (hi (run E (x, y, z) k).2.1), .int .u64 (lo (run E (x, y, z) k).2.1), .int .i64 (hi (run E (x, y, z) k).2.2), .int .u64 (lo (run E (x, y, z) k).2.2)] 34) = wq at hF0 ⊢
      generalize wh.heap.size = bg at hF0 ⊢
      generalize v1.heap.size = bt at *
      clear hA5 hA
      go_loopg [9, 10, 11, 18, 19, 20, 21] k (fun g s9 s10 s11 s18 s19 s20 s21 wr => ∃ (j : Nat) (r : Int) (rep : Bool), j ≤ k ∧ g = k - j ∧ s9 = .int .i64 (run E (x, y, z) j).1 ∧ s10 = .int .i64 (run E (x, y, z) j).2.1 ∧ s11 = .int .i64 (run E (x, y, z) j).2.2 ∧
        s18 = .int .i64 (hsh j) ∧ s19 = .int .i64 r ∧ s20 = .bool rep ∧ s21 = .int .i64 j ∧ SAt j (hsh j) r rep ∧ Fin w wr w.heap.size bt k bg E (run E (x, y, z) k))
      case atStart => exact ⟨0, 4, false, by omega, by omega, rfl, rfl, rfl, rfl, rfl, rfl, rfl, SAt.start, hF0⟩
      case round =>
        obtain ⟨j, r, rep, hj, rfl, rfl, rfl, rfl, rfl, rfl, rfl, rfl, hsat, hF⟩ := hrel
        clear hF0
        by_cases hlt : j < k
        · have hok := Ok.run st0 k hE j hj
          have hfit := hok.fit (hE j hlt) (by omega)
          have hrs : Hid (run E (x, y, z) (j + 1) = stp (hsh j) (E j) (run E (x, y, z) j)) := rfl
          have e0 := hF.a.es.cell hlt
          clear hok
          generalize hT : run E (x, y, z) j = T at *
          obtain ⟨tx, ty, tz⟩ := T
          have HT : Hid (run E (x, y, z) j = (tx, ty, tz)) := hT
          clear hT
          generalize he' : E j = ek at *
          have HE : Hid (E j = ek) := he'
          clear he'
          have sp := hsh_pos j
          have sl := hsh_le j (by omega)
          obtain ⟨xp1, xp2⟩ := hfit.xp
          obtain ⟨xm1, xm2⟩ := hfit.xm
          obtain ⟨yp1, yp2⟩ := hfit.yp
          obtain ⟨ym1, ym2⟩ := hfit.ym
          obtain ⟨zp1, zp2⟩ := hfit.zp
          obtain ⟨zm1, zm2⟩ := hfit.zm
          dsimp only at *
          by_cases hz : 0 ≤ tz
          · skip
            have hrun : Hid (run E (x, y, z) (j + 1) = (tx + ty / 2 ^ min (hsh j) 64, ty + tx / 2 ^ min (hsh j) 64, tz - ek)) := by
              have h := hrs.out
              unfold stp at h
              rw [if_pos hz] at h
              exact h
            cases rep with
            | true =>
              have hsr : (((hsh j : Nat) : Int) == r) = true := beq_iff_eq.2 hsat.rep
              have rb := hsat.bd
              have hnew := hsat.on
              have hs' : Hid (_ = _) := hnew.shift
              have Hnew : Hid (SAt (j + 1) _ (3 * r + 1) false) := hnew
              clear hnew hsat
              go_wp2_with fail
              go_quiet (fail)
              go_wp2
              go_roundg (k - (j + 1))
              case measure => omega
              case rel => exact ⟨j + 1, _, _, by omega, rfl, by rw [hrun.out], by rw [hrun.out], by rw [hrun.out], by rw [← hs'.out], rfl, rfl, by go_num, by rw [← hs'.out]; exact Hnew.out, hF.drewN _⟩
            | false =>
              have rb := hsat.bd
              by_cases hsr0 : ((hsh j : Nat) : Int) = r
              · have hsr : (((hsh j : Nat) : Int) == r) = true := beq_iff_eq.2 hsr0
                have hnew := hsat.twice (by omega) hsr0
                clear hsr0
                have hnew := hnew
                have hs' : Hid (_ = _) := hnew.shift
                have Hnew : Hid (SAt (j + 1) _ r true) := hnew
                clear hnew hsat
                go_wp2_with fail
                go_quiet (fail)
                go_wp2
                go_roundg (k - (j + 1))
                case measure => omega
                case rel => exact ⟨j + 1, _, _, by omega, rfl, by rw [hrun.out], by rw [hrun.out], by rw [hrun.out], by rw [← hs'.out], rfl, rfl, by go_num, by rw [← hs'.out]; exact Hnew.out, hF.drewN _⟩
              · have hsr : (((hsh j : Nat) : Int) == r) = false := beq_eq_false_iff_ne.2 hsr0
                have hnew := hsat.up (by omega) hsr0
                clear hsr0
                have hnew := hnew
                have hs' : Hid (_ = _) := hnew.shift
                have Hnew : Hid (SAt (j + 1) _ r false) := hnew
                clear hnew hsat
                go_wp2_with fail
                go_quiet (fail)
                go_wp2
                go_roundg (k - (j + 1))
                case measure => omega
                case rel => exact ⟨j + 1, _, _, by omega, rfl, by rw [hrun.out], by rw [hrun.out], by rw [hrun.out], by rw [← hs'.out], rfl, rfl, by go_num, by rw [← hs'.out]; exact Hnew.out, hF.drewN _⟩
          · skip
            have hrun : Hid (run E (x, y, z) (j + 1) = (tx - ty / 2 ^ min (hsh j) 64, ty - tx / 2 ^ min (hsh j) 64, tz + ek)) := by
              have h := hrs.out
              unfold stp at h
              rw [if_neg hz] at h
              exact h
            cases rep with
            | true =>
              have hsr : (((hsh j : Nat) : Int) == r) = true := beq_iff_eq.2 hsat.rep
              have rb := hsat.bd
              have hnew := hsat.on
              have hs' : Hid (_ = _) := hnew.shift
              have Hnew : Hid (SAt (j + 1) _ (3 * r + 1) false) := hnew
              clear hnew hsat
              go_wp2_with fail
              go_quiet (fail)
              go_wp2
              go_roundg (k - (j + 1))
              case measure => omega
              case rel => exact ⟨j + 1, _, _, by omega, rfl, by rw [hrun.out], by rw [hrun.out], by rw [hrun.out], by rw [← hs'.out], rfl, rfl, by go_num, by rw [← hs'.out]; exact Hnew.out, hF.drewN _⟩
            | false =>
              have rb := hsat.bd
              by_cases hsr0 : ((hsh j : Nat) : Int) = r
              · have hsr : (((hsh j : Nat) : Int) == r) = true := beq_iff_eq.2 hsr0
                have hnew := hsat.twice (by omega) hsr0
                clear hsr0
                have hnew := hnew
                have hs' : Hid (_ = _) := hnew.shift
                have Hnew : Hid (SAt (j + 1) _ r true) := hnew
                clear hnew hsat
                go_wp2_with fail
                go_quiet (fail)
                go_wp2
                go_roundg (k - (j + 1))
                case measure => omega
                case rel => exact ⟨j + 1, _, _, by omega, rfl, by rw [hrun.out], by rw [hrun.out], by rw [hrun.out], by rw [← hs'.out], rfl, rfl, by go_num, by rw [← hs'.out]; exact Hnew.out, hF.drewN _⟩
              · have hsr : (((hsh j : Nat) : Int) == r) = false := beq_eq_false_iff_ne.2 hsr0
                have hnew := hsat.up (by omega) hsr0
                clear hsr0
                have hnew := hnew
                have hs' : Hid (_ = _) := hnew.shift
                have Hnew : Hid (SAt (j + 1) _ r false) := hnew
                clear hnew hsat
                go_wp2_with fail
                go_quiet (fail)
                go_wp2
                go_roundg (k - (j + 1))
                case measure => omega
                case rel => exact ⟨j + 1, _, _, by omega, rfl, by rw [hrun.out], by rw [hrun.out], by rw [hrun.out], by rw [← hs'.out], rfl, rfl, by go_num, by rw [← hs'.out]; exact Hnew.out, hF.drewN _⟩
        · obtain rfl : j = k := by omega
          have hokT := Ok.run st0 j hE j (Nat.le_refl _)
          generalize run E (x, y, z) j = T at *
          obtain ⟨tx, ty, tz⟩ := T
          clear hsat hE
          go_wp2_with fail
          go_loopg [25] j (fun g s25 wr => ∃ i : Nat, i ≤ j ∧ g = j - i ∧ s25 = .int .i64 i ∧ Fin w wr w.heap.size bt j bg E (tx, ty, tz))
          case atStart => exact ⟨0, by omega, by omega, rfl, hF⟩
          case round =>
            obtain ⟨i, hi', rfl, rfl, hF2⟩ := hrel
            clear hF
            by_cases hlt : i < j
            · have e0 := hF2.a.es.cell hlt
              have q0 := hF2.a.tb.c0 hlt
              have q1 := hF2.a.tb.c1 hlt
              generalize E i = ek at *
              go_upto_region 33 with fail
              go_cut [146] from 131 to 145 (fun s146 wd => s146 = .bool false ∧ Fin w wd w.heap.size bt j bg E (tx, ty, tz))
              case first =>
                go_region_held3 (fun w' => w'.cell? ⟨w.heap.size, i, none⟩ = some (.int .i64 ek) ∧ w'.cell? ⟨bt, i * 2, none⟩ = some (.int .i64 (hi ek)) ∧ w'.cell? ⟨bt, i * 2 + 1, none⟩ = some (.int .u64 (lo ek)))
                  (refine ⟨?_, ?_, ?_⟩ <;> repeat (first | with_reducible assumption | with_reducible refine keep_drew ?_ | with_reducible refine keep_alloc ?_ _))
                  (first
                    | (go_at_call 9; refine (wide_any ek _).mono ?_; rintro e w' ⟨rfl, c1, rfl⟩))
                all_goals go_wp2_with fail
                all_goals go_meet
                all_goals exact ⟨by simp, by repeat (first | exact hF2 | with_reducible refine Fin.drew ?_ | with_reducible refine Fin.alloc ?_ _)⟩
              case rest =>
                obtain ⟨rfl, hF3⟩ := hcut
                clear e0 q0 q1 hF2
                go_wp2
                go_roundg (j - (i + 1))
                case measure => omega
                case rel => exact ⟨i + 1, by omega, rfl, by go_num, hF3⟩
            · obtain rfl : i = j := by omega
              obtain ⟨g0, g1, g2, g3, g4, g5⟩ := hF2.cells
              dsimp only at g0 g1 g2 g3 g4 g5
              go_wp2_with fail
              go_region_held3 (fun w' => w'.cell? ⟨bg, 0, none⟩ = some (.int .i64 (hi tx)) ∧ w'.cell? ⟨bg, 1, none⟩ = some (.int .u64 (lo tx)) ∧ w'.cell? ⟨bg, 2, none⟩ = some (.int .i64 (hi ty)) ∧ w'.cell? ⟨bg, 3, none⟩ = some (.int .u64 (lo ty)) ∧ w'.cell? ⟨bg, 4, none⟩ = some (.int .i64 (hi tz)) ∧ w'.cell? ⟨bg, 5, none⟩ = some (.int .u64 (lo tz)))
                (refine ⟨?_, ?_, ?_, ?_, ?_, ?_⟩ <;> repeat (first | with_reducible assumption | with_reducible refine keep_drew ?_ | with_reducible refine keep_alloc ?_ _))
                (first
                  | (go_at_call 9; refine (wide_any _ _).mono ?_; rintro e w' ⟨rfl, c1, rfl⟩))
              all_goals go_wp2
              all_goals go_ret
              all_goals refine ⟨rfl, Fin.old (be := w.heap.size) (bt := bt) (n := i) (bg := bg) (E := E) (t := (tx, ty, tz)) ?_⟩
              all_goals repeat (first | exact hF2 | with_reducible refine Fin.drew ?_ | with_reducible refine Fin.alloc ?_ _)

set_option maxRecDepth 100000 in
/-- More than 1024 steps: the law says nothing. -/
theorem law_c_long (a0 a1 a2 : Int) (a3 : Option Addr) (n cap : Nat) (w : World) (hn : 1024 < n) (hm : n ≤ maxLen) :
    Calls Yba.prog 5 #[.int .i64 a0, .int .i64 a1, .int .i64 a2, .slice a3 n cap] w fun e w' => e = .returned (.bool true) ∧ Below w.heap.size w w' := by
  unfold maxLen at hm
  go_enter Yba.func5, Yba.ntmps5
  go_wp2
  go_ret
  exact ⟨rfl, Below.refl _ _⟩
end Go.Proofs.Ybulkbhaa
