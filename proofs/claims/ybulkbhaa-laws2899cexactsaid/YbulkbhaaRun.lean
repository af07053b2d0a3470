import Derived.Test.YbulkbhaaBlk
import Derived.Test.YbulkbhaaWide
import Derived.Deep.DeepCutAuto
import Derived.Deep.RegionHeld3
import Derived.Deep.LoopGhost
import Derived.Deep.Light
namespace Go.Proofs.Ybulkbhaa
open Go.RowKit

set_option maxRecDepth 100000 in
set_option maxHeartbeats 1500000 in
theorem runs (x y z : Int) (bt n cap : Nat) (es : Nat → Int) (w : World) (hn : n ≤ 1024) (ht : Ok 0 (x, y, z)) (he : ∀ k, k < n → OkE (es k))
    (hcell : ∀ k, k < n → w.cell? ⟨bt, k * 2, none⟩ = some (.int .i64 (hi (es k))) ∧ w.cell? ⟨bt, k * 2 + 1, none⟩ = some (.int .u64 (lo (es k)))) :
    Calls Yba.prog 10 #[.agg #[.int .i64 (hi x), .int .u64 (lo x), .int .i64 (hi y), .int .u64 (lo y), .int .i64 (hi z), .int .u64 (lo z)], .slice (some ⟨bt, 0, none⟩) n cap] w fun e w' =>
      e = .returned (.tuple #[.agg #[.int .i64 (hi (run es (x, y, z) n).1), .int .u64 (lo (run es (x, y, z) n).1), .int .i64 (hi (run es (x, y, z) n).2.1), .int .u64 (lo (run es (x, y, z) n).2.1), .int .i64 (hi (run es (x, y, z) n).2.2), .int .u64 (lo (run es (x, y, z) n).2.2)], .nilIface]) ∧ Below w.heap.size w w' := by
  go_enter Yba.func10, Yba.ntmps10
  go_wp2
  go_cut [6, 7, 8] from 19 to 24 (fun a6 a7 a8 wc => ∃ bx b1 bz : Nat, a6 = .pointer (some ⟨bx, 0, none⟩) ∧ a7 = .pointer (some ⟨b1, 0, none⟩) ∧ a8 = .pointer (some ⟨bz, 0, none⟩) ∧ Sts w wc bx b1 bz (x, y, z))
  case first =>
    go_region
    all_goals go_wp2_with fail
    all_goals go_meet
    all_goals (refine ⟨_, _, _, rfl, rfl, rfl, ?_⟩)
    all_goals go_light
    all_goals refine ⟨below_five _ _ _ _ _ _, heap_second _ _ _ _ _ _, ?_, ?_, ?_, by omega, by omega, by omega, by omega, by omega, by omega⟩
    all_goals first | exact blk1 _ _ _ _ _ _ | exact blk2 _ _ _ _ _ _ | exact blk3 _ _ _ _ _ _
  case rest =>
    obtain ⟨bx, b1, bz, rfl, rfl, rfl, hst0⟩ := hcut
    go_wp2_with fail
    go_loopg [27] n (fun g s27 wr => ∃ k : Nat, k ≤ n ∧ g = n - k ∧ s27 = .int .i64 k ∧ Sts w wr bx b1 bz (run es (x, y, z) k))
    case atStart => exact ⟨0, by omega, by omega, rfl, hst0⟩
    case round =>
      obtain ⟨k, hk, rfl, rfl, hst⟩ := hrel
      by_cases hlt : k < n
      · have hok := Ok.run ht n he k hk
        have hfit := hok.fit (he k hlt) (by omega)
        have hrs : Hid (run es (x, y, z) (k + 1) = stp (hsh k) (es k) (run es (x, y, z) k)) := rfl
        obtain ⟨ec0, ec1⟩ := hcell k hlt
        have hbt := World.block_lt_of_cell? w _ ec0
        have e0 := (hst.below.cell (p := ⟨bt, k * 2, none⟩) hbt).trans ec0
        have e1 := (hst.below.cell (p := ⟨bt, k * 2 + 1, none⟩) hbt).trans ec1
        clear ec0 ec1 hok
        generalize hT : run es (x, y, z) k = T at *
        obtain ⟨tx, ty, tz⟩ := T
        have HT : Hid (run es (x, y, z) k = (tx, ty, tz)) := hT
        clear hT
        generalize he' : es k = ek at *
        have HE : Hid (es k = ek) := he'
        clear he'
        have x0 := hst.x.c0
        have x1 := hst.x.c1
        have y0 := hst.y.c0
        have y1 := hst.y.c1
        dsimp only at x0 x1 y0 y1
        have hxl := hst.x.lt
        have hyl := hst.y.lt
        have sp := hsh_pos k
        have sl := hsh_le k (by omega)
        go_upto_region 6 with (go_at_call 16; refine (shift_any k _ (by omega)).mono ?_; rintro e w' ⟨rfl, rfl⟩)
        go_cut [12, 13] from 28 to 105 (fun a12 a13 wd => ∃ b2 b3 : Nat, a12 = .pointer (some ⟨b2, 0, none⟩) ∧ a13 = .pointer (some ⟨b3, 0, none⟩) ∧ wr.heap.size < b2 ∧ wr.heap.size < b3 ∧
          Blk wd b2 (tx / 2 ^ min (hsh k) 64) ∧ Blk wd b3 (ty / 2 ^ min (hsh k) 64) ∧ Below (wr.heap.size + 1) (wr.alloc (.cells #[.int .i64 (hi ek), .int .u64 (lo ek)] 31)) wd)
        case first =>
          go_region_held3 (fun w' => w'.cell? ⟨bx, 0, none⟩ = some (.int .i64 (hi tx)) ∧ w'.cell? ⟨bx, 1, none⟩ = some (.int .u64 (lo tx)) ∧ w'.cell? ⟨b1, 0, none⟩ = some (.int .i64 (hi ty)) ∧ w'.cell? ⟨b1, 1, none⟩ = some (.int .u64 (lo ty))) (refine ⟨?_, ?_, ?_, ?_⟩ <;> repeat (first | with_reducible assumption | with_reducible refine keep_drew ?_ | with_reducible refine keep_alloc ?_ _ | with_reducible refine keep_set ?_ (by simp; omega)))
            (first
              | (go_at_call_of 17 (hi tx); refine (rsh_any tx (hsh k) _ hfit.x sp sl).mono ?_; rintro e w' ⟨rfl, o1, o2, rfl⟩)
              | (go_at_call_of 17 (hi ty); refine (rsh_any ty (hsh k) _ hfit.y sp sl).mono ?_; rintro e w' ⟨rfl, o1, o2, rfl⟩))
          all_goals go_wp2_with fail
          all_goals go_meet
          all_goals go_light
          all_goals refine ⟨_, _, rfl, rfl, by omega, by omega, Blk.drew ?_, Blk.drew ?_, Below.drew ?_⟩
          all_goals (repeat (first | (with_reducible refine Blk.newAt ?_; simp only [World.size_alloc]; done) | with_reducible refine Blk.alloc ?_ _ | with_reducible exact Below.refl _ _ | with_reducible refine Below.alloc ?_ (by simp only [World.size_alloc]; omega) _))
        case rest =>
          obtain ⟨b2, b3, rfl, rfl, g2, g3, hxs, hys, hbe⟩ := hcut
          have hE := (Blk.new wr ek).below hbe (by omega)
          have hst2 := hst.on ((Below.refl _ _).alloc (Nat.le_refl _) _ |>.trans (hbe.mono (by omega)))
          have hsz := hbe.size
          simp only [World.size_alloc] at hsz
          clear hbe hst x0 x1 y0 y1 e0 e1
          go_upto_region 7 with fail
          go_cut [14, 15, 16] from 28 to 105 (fun a14 a15 a16 wd => ∃ c1 c2 c3 : Nat, a14 = .pointer (some ⟨c1, 0, none⟩) ∧ a15 = .pointer (some ⟨c2, 0, none⟩) ∧ a16 = .pointer (some ⟨c3, 0, none⟩) ∧
            Nine w wd bx b1 bz wr.heap.size b2 b3 c1 c2 c3 (tx, ty, tz) ek (tx / 2 ^ min (hsh k) 64) (ty / 2 ^ min (hsh k) 64) 0 0 0)
          case first =>
            go_wp2_with fail
            go_meet
            exact ⟨_, _, _, rfl, rfl, rfl, Nine.make hst2 hE hxs hys⟩
          case rest =>
          clear hst2 hE hxs hys hsz
          obtain ⟨c1, c2, c3, rfl, rfl, rfl, h9⟩ := hcut
          have z0 := h9.st.z.c0
          dsimp only at z0
          by_cases hz : 0 ≤ tz
          · have hz' : 0 ≤ hi tz := by have := hi_pos hfit.z hz; dsimp only at this; omega
            go_upto_region 10 with fail
            go_cut [17] from 28 to 105 (fun a17 wh => a17 = .bool true ∧ Nine w wh bx b1 bz wr.heap.size b2 b3 c1 c2 c3 (tx, ty, tz) ek (tx / 2 ^ min (hsh k) 64) (ty / 2 ^ min (hsh k) 64) (tx + ty / 2 ^ min (hsh k) 64) 0 0)
            case first =>
              have l0 := h9.st.x.c0
              have l1 := h9.st.x.c1
              have q0 := h9.ys.c0
              have q1 := h9.ys.c1
              have m0 := h9.n1.c0
              have m1 := h9.n1.c1
              have f0 := h9.n1.f0
              have f1 := h9.n1.f1
              dsimp only at l0 l1
              go_wp2_with (go_at_call 18; refine (add_w tx (ty / 2 ^ min (hsh k) 64) _ hfit.x hfit.ys hfit.xp).mono ?_; rintro e w' ⟨rfl, hb⟩; have h9' := h9.on hb; have m0' := h9'.n1.c0; have m1' := h9'.n1.c1; have f0' := h9'.n1.f0; have f1' := h9'.n1.f1)
              go_meet
              exact ⟨rfl, h9'.set1 _⟩
            case rest =>
            clear h9
            obtain ⟨rfl, h9⟩ := hcut
            go_upto_region 11 with fail
            go_cut [18] from 28 to 105 (fun a18 wh => a18 = .bool true ∧ Nine w wh bx b1 bz wr.heap.size b2 b3 c1 c2 c3 (tx, ty, tz) ek (tx / 2 ^ min (hsh k) 64) (ty / 2 ^ min (hsh k) 64) (tx + ty / 2 ^ min (hsh k) 64) (ty + tx / 2 ^ min (hsh k) 64) 0)
            case first =>
              have l0 := h9.st.y.c0
              have l1 := h9.st.y.c1
              have q0 := h9.xs.c0
              have q1 := h9.xs.c1
              have m0 := h9.n2.c0
              have m1 := h9.n2.c1
              have f0 := h9.n2.f0
              have f1 := h9.n2.f1
              dsimp only at l0 l1
              go_wp2_with (go_at_call 18; refine (add_w ty (tx / 2 ^ min (hsh k) 64) _ hfit.y hfit.xs hfit.yp).mono ?_; rintro e w' ⟨rfl, hb⟩; have h9' := h9.on hb; have m0' := h9'.n2.c0; have m1' := h9'.n2.c1; have f0' := h9'.n2.f0; have f1' := h9'.n2.f1)
              go_meet
              exact ⟨rfl, h9'.set2 _⟩
            case rest =>
            clear h9
            obtain ⟨rfl, h9⟩ := hcut
            go_upto_region 12 with fail
            go_cut [16] from 28 to 105 (fun a16 wh => a16 = .pointer (some ⟨c3, 0, none⟩) ∧ Nine w wh bx b1 bz wr.heap.size b2 b3 c1 c2 c3 (tx, ty, tz) ek (tx / 2 ^ min (hsh k) 64) (ty / 2 ^ min (hsh k) 64) (tx + ty / 2 ^ min (hsh k) 64) (ty + tx / 2 ^ min (hsh k) 64) (tz - ek))
            case first =>
              have l0 := h9.st.z.c0
              have l1 := h9.st.z.c1
              have q0 := h9.e.c0
              have q1 := h9.e.c1
              have m0 := h9.n3.c0
              have m1 := h9.n3.c1
              have f0 := h9.n3.f0
              have f1 := h9.n3.f1
              dsimp only at l0 l1
              go_wp2_with (go_at_call 19; refine (sub_w tz ek _ hfit.z hfit.ee hfit.zm).mono ?_; rintro e w' ⟨rfl, hb⟩; have h9' := h9.on hb; have m0' := h9'.n3.c0; have m1' := h9'.n3.c1; have f0' := h9'.n3.f0; have f1' := h9'.n3.f1)
              go_meet
              exact ⟨rfl, h9'.set3 _⟩
            case rest =>
            clear h9
            obtain ⟨rfl, h9⟩ := hcut
            have hrun : Hid (run es (x, y, z) (k + 1) = (tx + ty / 2 ^ min (hsh k) 64, ty + tx / 2 ^ min (hsh k) 64, tz - ek)) := by
              have h := hrs.out
              unfold stp at h
              rw [if_pos hz] at h
              exact h
            go_upto_region 20 with fail
            have l10 := h9.n1.c0
            have l11 := h9.n1.c1
            have l20 := h9.n2.c0
            have l21 := h9.n2.c1
            have l30 := h9.n3.c0
            have l31 := h9.n3.c1
            have x0 := h9.st.x.c0
            have x1 := h9.st.x.c1
            have y0 := h9.st.y.c0
            have y1 := h9.st.y.c1
            have z0 := h9.st.z.c0
            have z1 := h9.st.z.c1
            have fx0 := h9.st.x.f0
            have fx1 := h9.st.x.f1
            have fy0 := h9.st.y.f0
            have fy1 := h9.st.y.f1
            have fz0 := h9.st.z.f0
            have fz1 := h9.st.z.f1
            have dxy := h9.st.xy
            have dxz := h9.st.xz
            have dyz := h9.st.yz
            have dyx := Ne.symm h9.st.xy
            have dzx := Ne.symm h9.st.xz
            have dzy := Ne.symm h9.st.yz
            have k1 := h9.lx
            have k2 := h9.ly
            have k3 := h9.lz
            have k4 := h9.l4
            have k5 := h9.l5
            generalize (tx + ty / 2 ^ min (hsh k) 64) = v1 at *
            generalize (ty + tx / 2 ^ min (hsh k) 64) = v2 at *
            generalize (tz - ek) = v3 at *
            dsimp only at x0 x1 y0 y1 z0 z1
            go_region
            go_wp2_with fail
            go_roundg (n - (k + 1))
            case measure => omega
            case rel => exact ⟨k + 1, by omega, rfl, by go_num, by rw [hrun.out]; exact h9.st.move _ _ _⟩
          · have hz' : hi tz < 0 := by have := hi_neg hfit.z (by dsimp only; omega); dsimp only at this; omega
            go_upto_region 13 with fail
            go_cut [17] from 28 to 105 (fun a17 wh => a17 = .bool true ∧ Nine w wh bx b1 bz wr.heap.size b2 b3 c1 c2 c3 (tx, ty, tz) ek (tx / 2 ^ min (hsh k) 64) (ty / 2 ^ min (hsh k) 64) (tx - ty / 2 ^ min (hsh k) 64) 0 0)
            case first =>
              have l0 := h9.st.x.c0
              have l1 := h9.st.x.c1
              have q0 := h9.ys.c0
              have q1 := h9.ys.c1
              have m0 := h9.n1.c0
              have m1 := h9.n1.c1
              have f0 := h9.n1.f0
              have f1 := h9.n1.f1
              dsimp only at l0 l1
              go_wp2_with (go_at_call 19; refine (sub_w tx (ty / 2 ^ min (hsh k) 64) _ hfit.x hfit.ys hfit.xm).mono ?_; rintro e w' ⟨rfl, hb⟩; have h9' := h9.on hb; have m0' := h9'.n1.c0; have m1' := h9'.n1.c1; have f0' := h9'.n1.f0; have f1' := h9'.n1.f1)
              go_meet
              exact ⟨rfl, h9'.set1 _⟩
            case rest =>
            clear h9
            obtain ⟨rfl, h9⟩ := hcut
            go_upto_region 14 with fail
            go_cut [18] from 28 to 105 (fun a18 wh => a18 = .bool true ∧ Nine w wh bx b1 bz wr.heap.size b2 b3 c1 c2 c3 (tx, ty, tz) ek (tx / 2 ^ min (hsh k) 64) (ty / 2 ^ min (hsh k) 64) (tx - ty / 2 ^ min (hsh k) 64) (ty - tx / 2 ^ min (hsh k) 64) 0)
            case first =>
              have l0 := h9.st.y.c0
              have l1 := h9.st.y.c1
              have q0 := h9.xs.c0
              have q1 := h9.xs.c1
              have m0 := h9.n2.c0
              have m1 := h9.n2.c1
              have f0 := h9.n2.f0
              have f1 := h9.n2.f1
              dsimp only at l0 l1
              go_wp2_with (go_at_call 19; refine (sub_w ty (tx / 2 ^ min (hsh k) 64) _ hfit.y hfit.xs hfit.ym).mono ?_; rintro e w' ⟨rfl, hb⟩; have h9' := h9.on hb; have m0' := h9'.n2.c0; have m1' := h9'.n2.c1; have f0' := h9'.n2.f0; have f1' := h9'.n2.f1)
              go_meet
              exact ⟨rfl, h9'.set2 _⟩
            case rest =>
            clear h9
            obtain ⟨rfl, h9⟩ := hcut
            go_upto_region 15 with fail
            go_cut [16] from 28 to 105 (fun a16 wh => a16 = .pointer (some ⟨c3, 0, none⟩) ∧ Nine w wh bx b1 bz wr.heap.size b2 b3 c1 c2 c3 (tx, ty, tz) ek (tx / 2 ^ min (hsh k) 64) (ty / 2 ^ min (hsh k) 64) (tx - ty / 2 ^ min (hsh k) 64) (ty - tx / 2 ^ min (hsh k) 64) (tz + ek))
            case first =>
              have l0 := h9.st.z.c0
              have l1 := h9.st.z.c1
              have q0 := h9.e.c0
              have q1 := h9.e.c1
              have m0 := h9.n3.c0
              have m1 := h9.n3.c1
              have f0 := h9.n3.f0
              have f1 := h9.n3.f1
              dsimp only at l0 l1
              go_wp2_with (go_at_call 18; refine (add_w tz ek _ hfit.z hfit.ee hfit.zp).mono ?_; rintro e w' ⟨rfl, hb⟩; have h9' := h9.on hb; have m0' := h9'.n3.c0; have m1' := h9'.n3.c1; have f0' := h9'.n3.f0; have f1' := h9'.n3.f1)
              go_meet
              exact ⟨rfl, h9'.set3 _⟩
            case rest =>
            clear h9
            obtain ⟨rfl, h9⟩ := hcut
            have hrun : Hid (run es (x, y, z) (k + 1) = (tx - ty / 2 ^ min (hsh k) 64, ty - tx / 2 ^ min (hsh k) 64, tz + ek)) := by
              have h := hrs.out
              unfold stp at h
              rw [if_neg hz] at h
              exact h
            go_upto_region 20 with fail
            have l10 := h9.n1.c0
            have l11 := h9.n1.c1
            have l20 := h9.n2.c0
            have l21 := h9.n2.c1
            have l30 := h9.n3.c0
            have l31 := h9.n3.c1
            have x0 := h9.st.x.c0
            have x1 := h9.st.x.c1
            have y0 := h9.st.y.c0
            have y1 := h9.st.y.c1
            have z0 := h9.st.z.c0
            have z1 := h9.st.z.c1
            have fx0 := h9.st.x.f0
            have fx1 := h9.st.x.f1
            have fy0 := h9.st.y.f0
            have fy1 := h9.st.y.f1
            have fz0 := h9.st.z.f0
            have fz1 := h9.st.z.f1
            have dxy := h9.st.xy
            have dxz := h9.st.xz
            have dyz := h9.st.yz
            have dyx := Ne.symm h9.st.xy
            have dzx := Ne.symm h9.st.xz
            have dzy := Ne.symm h9.st.yz
            have k1 := h9.lx
            have k2 := h9.ly
            have k3 := h9.lz
            have k4 := h9.l4
            have k5 := h9.l5
            generalize (tx - ty / 2 ^ min (hsh k) 64) = v1 at *
            generalize (ty - tx / 2 ^ min (hsh k) 64) = v2 at *
            generalize (tz + ek) = v3 at *
            dsimp only at x0 x1 y0 y1 z0 z1
            go_region
            go_wp2_with fail
            go_roundg (n - (k + 1))
            case measure => omega
            case rel => exact ⟨k + 1, by omega, rfl, by go_num, by rw [hrun.out]; exact h9.st.move _ _ _⟩
      · obtain rfl : k = n := by omega
        generalize hT : run es (x, y, z) k = T at *
        obtain ⟨tx, ty, tz⟩ := T
        have HT : Hid (run es (x, y, z) k = (tx, ty, tz)) := hT
        clear hT hlt
        have x0 := hst.x.c0
        have x1 := hst.x.c1
        have y0 := hst.y.c0
        have y1 := hst.y.c1
        have z0 := hst.z.c0
        have z1 := hst.z.c1
        obtain ⟨⟨r0, r1, r2, r3, r4, r5⟩, rf⟩ := hst.rc
        dsimp only at x0 x1 y0 y1 z0 z1
        go_wp2
        refine bodyPost_ret (v := .tuple #[.agg #[.int .i64 (hi tx), .int .u64 (lo tx), .int .i64 (hi ty), .int .u64 (lo ty), .int .i64 (hi tz), .int .u64 (lo tz)], .nilIface]) (by simp [results, Yba.results10, go_sem, *]) rfl ⟨by rw [HT.out], ?_⟩
        exact (((((hst.below.setCell (by simp) _).setCell (by simp) _).setCell (by simp) _).setCell (by simp) _).setCell (by simp) _).setCell (by simp) _
end Go.Proofs.Ybulkbhaa
