import Derived.Test.YbulkbhcsDoorSeq
import Derived.Test.YbulkbhcsDoorRound
import Derived.Sort.LoopGhostIn
import Derived.Sort.CutIn
namespace Go.Proofs.YbulkbhcsDoor
open Go.RowKit Go.Shelf
attribute [local go_sem] Oper.semAt_some

/-- The transactions at the nodes x. -/
def txI (zs : List Int) (x : List Int) : List Int := x.map (fun v => zs.getD v.toNat 0)
theorem txI_len (zs x : List Int) : (txI zs x).length = x.length := by simp [txI]

set_option maxHeartbeats 1000000 in
set_option maxRecDepth 100000 in
theorem serials1_ok (W : World) (B Bc bG bt bg n ct cg l : Nat) (zs : List Int) (g : List (List Nat)) (hB : B ≤ W.heap.size) (hg : GG B W bG bt bg n ct cg zs g) (hdb : Deb W) (hc : W.cell? ⟨Bc, 0, none⟩ = some (.pointer (some ⟨bG, 0, none⟩)))
    (J Jx : Nat → List (List Int) → World → Prop) (hJx : Stable W.heap.size Jx) (ha : Asks W l n ((ordersOf g n).map (txI zs)) (fun A => GG B A bG bt bg n ct cg zs g ∧ Deb A ∧ A.cell? ⟨Bc, 0, none⟩ = some (.pointer (some ⟨bG, 0, none⟩))) J Jx) :
    Calls Ybad.prog 13 #[.func (.yield l) #[] #[], .pointer (some ⟨Bc, 0, none⟩)] W fun e W' => (∃ v, e = .returned v) ∧ ∃ B1, W.heap.size ≤ B1 ∧ (J B1 ((ordersOf g n).map (txI zs)) W' ∨ ∃ pre, pre <+: (ordersOf g n).map (txI zs) ∧ pre ≠ [] ∧ Jx B1 pre W') := by
  have n6 : n ≤ 6 := by have := hg.ok.n6; rw [hg.gn] at this; exact this
  have HA : Hid (Asks _ _ _ _ _ _ _) := ha
  have HX : Hid (Stable _ _) := hJx
  have HG : Hid (GG _ _ _ _ _ _ _ _ _ _) := hg
  have m29 := mk29 n (by omega)
  have c0 := hg.c0
  clear ha hJx hg
  refine (callsIn_wide (n := 9)).1 (callsIn_of_wp_marks Ybad.func13 rfl trivial ?_ rfl)
  simp only [Ybad.ntmps13, List.size_toArray, List.length_cons, List.length_nil, Nat.reduceAdd, Nat.reduceSub, Array.replicate_succ, Array.replicate_zero, List.push_toArray, List.append_toArray, List.nil_append, List.cons_append]
  refine wpIn_wide.2 ?_
  go_upto_region 1 with fail
  obtain ⟨k2, hb, s2⟩ := one1 W (.cells #[.func (.yield l) #[] #[]] 50)
  obtain ⟨B0, hB0⟩ : ∃ b, W.heap.size = b := ⟨_, rfl⟩
  have hcl := World.block_lt_of_cell? W _ hc
  dsimp only at hcl
  rw [hB0] at k2 hb s2 hB hcl
  simp only [hB0]
  generalize W.alloc (.cells #[.func (.yield l) #[] #[]] 50) = w1 at *
  have hg1 := HG.out.below (hb.mono hB)
  have c1 := (hb.cell (p := ⟨Bc, 0, none⟩) hcl).trans hc
  have c2 := hg1.c0
  clear c0
  go_upto_region 2 with fail
  obtain ⟨kr, k3, hb2, s3⟩ := two2 w1 (.cells (Array.replicate n (.int .i64 0)) 3) (.cells #[.slice (some ⟨w1.heap.size, 0, none⟩) n n] 29)
  rw [s2] at kr k3 s3
  have hb12 := hb.trans (hb2.mono (by omega))
  replace k2 := blk hb2 k2
  rw [s2] at *
  generalize (w1.alloc (.cells (Array.replicate n (.int .i64 0)) 3)).alloc (.cells #[.slice (some ⟨B0 + 1, 0, none⟩) n n] 29) = w2 at *
  have hg2 := HG.out.below (hb12.mono hB)
  have q1 := (hb12.cell (p := ⟨Bc, 0, none⟩) hcl).trans hc
  have q2 := hg2.c5
  have H14 : Hid (Calls Ybad.prog 14 _ _ _) := orders_ok w2 (.slice (some ⟨bg, 0, none⟩) n cg) rfl
  clear c1 c2 m29
  go_wp2_with (go_at_call 14; refine H14.out.mono ?_; rintro e w3 ⟨rfl, rfl⟩)
  obtain ⟨k35, hb3, s4⟩ := one1 w2 (.cells #[.slice (some ⟨bg, 0, none⟩) n cg] 35)
  rw [s3] at k35 s4
  have hb4 := hb12.trans (hb3.mono (by omega))
  replace k2 := blk hb3 k2
  replace k3 := blk hb3 k3
  replace kr := blk hb3 kr
  generalize w2.alloc (.cells #[.slice (some ⟨bg, 0, none⟩) n cg] 35) = w4 at *
  have HDB : Hid (Deb W) := hdb
  clear hg1 hg2 q1 q2 H14 hb hb2 hb12 hb3 hdb
  have h0 : 0 < B0 := by have := World.block_lt_of_cell? W _ (HDB.out 0 (by omega)); rw [hB0] at this; exact this
  refine wp_range (gf := 17) (lb := #[.pointer (some ⟨B0 + 1 + 2, 0, none⟩)]) rfl (enters_of Ybad.func17 (by kernel_rfl) rfl) rfl (n := n) (xs := ordersOf g n) (G := fun A => Gr B A bg g ∧ Deb A) ?seq
    (fun B1 pre A => J B1 (pre.map (txI zs)) A ∧ w4.heap.size ≤ B1 ∧ A.cell? ⟨B0, 0, none⟩ = some (.func (.yield l) #[] #[]) ∧ A.cell? ⟨B0 + 1 + 1, 0, none⟩ = some (.slice (some ⟨B0 + 1, 0, none⟩) n n) ∧ ∃ ys : List Int, ys.length = n ∧ Row A (B0 + 1) 3 .i64 ys)
    (fun c B1 pre A => c = .ret ∧ Jx B1 (pre.map (txI zs)) A ∧ w4.heap.size ≤ B1) ?sI ?sIx ?gI ?start (fun v => ⟨(List.toArray ((.func (.yield l) #[] #[]) :: (.pointer (some ⟨Bc, 0, none⟩)) :: (.pointer (some ⟨B0, 0, none⟩)) :: (.pointer (some ⟨B0 + 1 + 1, 0, none⟩)) :: v :: undef :: undef :: (.pointer (some ⟨bG, 0, none⟩)) :: (.pointer (some ⟨bG, 0, none⟩)) :: (.pointer (some ⟨bG, 0, none⟩)) :: (.slice (some ⟨bt, 0, none⟩) n ct) :: (.int .i64 (n : Int)) :: (.slice (some ⟨B0 + 1, 0, none⟩) n n) :: (.pointer (some ⟨bG, 0, none⟩)) :: (.pointer (some ⟨bG, 0, none⟩)) :: (.pointer (some ⟨bG, 5, none⟩)) :: (.slice (some ⟨bg, 0, none⟩) n cg) :: (.func (.func 17) #[] #[.pointer (some ⟨B0 + 1 + 2, 0, none⟩)]) :: v :: undef :: undef :: undef :: undef :: undef :: undef :: undef :: undef :: undef :: undef :: undef :: undef :: undef :: undef :: undef :: undef :: undef :: undef :: undef :: undef :: undef :: undef :: [])), []⟩) ?assign ?body ?done ?stop
  case seq =>
    intro W' hb l' J' Jx' h1 h2 h3 h4 h5
    have hbB : Below B0 W W' := hb4.trans (hb.mono (by omega))
    exact orders1_ok W' B (B0 + 1 + 2) bg cg n l' g HG.out.ok HG.out.gn HG.out.n1 (by have := hbB.size; omega) (HG.out.gr.below (hbB.mono hB)) (HDB.out.of_block (hbB.block 0 h0)) (cell_of (blk hb k35)) J' Jx' ⟨h1, h3, h4, h5⟩
  case sI =>
    rintro B1 pre A A' ⟨h1, h2, h3, h4, ys, h5, h6⟩ hk
    have hsame : ∀ k, k < w4.heap.size → k < A.heap.size → A'.heap[k]? = A.heap[k]? := fun k hk1 hk2 => hk.same k hk2 (by omega)
    refine ⟨HA.out.st _ _ _ _ h1 (hk.mono (by omega) (Nat.le_refl _)), h2, ?_, ?_, ys, h5, h6.of_block (hsame _ (by omega) h6.lt)⟩
    · exact (World.cell?_of_block (w := A) (hsame B0 (by omega) (World.block_lt_of_cell? A _ h3))).trans h3
    · exact (World.cell?_of_block (w := A) (hsame (B0 + 1 + 1) (by omega) (World.block_lt_of_cell? A _ h4))).trans h4
  case sIx =>
    rintro c B1 pre A A' ⟨h1, h2, h3⟩ hk
    exact ⟨h1, HX.out _ _ _ _ h2 (hk.mono (by omega) (Nat.le_refl _)), h3⟩
  case gI =>
    rintro B1 pre A ⟨h1, _⟩
    have := HA.out.g _ _ _ h1
    exact ⟨this.1.gr, this.2.1⟩
  case start =>
    intro B1 A h1 h2 hb
    exact ⟨HA.out.start B1 A (by omega) h2 (by rw [hB0]; exact hb4.trans (hb.mono (by omega))), h1, cell_of (blk hb k2), cell_of (blk hb k3), _, by simp, row_rep (blk hb kr)⟩
  case assign =>
    intro l' m v A K hK
    gi_wp2
    exact hK
  case done =>
    rintro D B1 A hD hD2 ⟨h1, h2, _⟩ hK
    go_wp2_with fail
    refine ⟨by simp, .inl ⟨_, _, rfl, run_takeDeferred hK, ?_⟩⟩
    exact ⟨_, results_none rfl _ _ _, ⟨_, rfl⟩, B1, by omega, .inl (HA.out.st _ _ _ _ h1 (Keep.put A (by omega) _))⟩
  case stop =>
    rintro D B1 c pre A hD hD2 hp hne ⟨rfl, h1, h2⟩ hK
    go_wp2_with fail
    refine ⟨by simp, .inl ⟨_, _, rfl, run_takeDeferred hK, ?_⟩⟩
    exact ⟨_, results_none rfl _ _ _, ⟨_, rfl⟩, B1, by omega, .inr ⟨_, hp.map _, by simpa using hne, HX.out _ _ _ _ h1 (Keep.put A (by omega) _)⟩⟩
  case body =>
    rintro l' m B1 pre x bo cap A h1 h2 h3 hp hx ⟨i1, i2, i3, i4, ys, i5, i6⟩ hcl2
    have hmem : x ∈ ordersOf g n := hp.subset (by simp)
    obtain ⟨p, rfl, -, hpp, hpl⟩ := orders_mem hmem
    have hgg := HA.out.g _ _ _ i1
    have HGG : Hid (_ ∧ _) := hgg
    clear hgg
    have hAl := i6.lt
    have HCL : Hid (Cells _ _ _) := hcl2
    have HPP : Hid (Pre _ _) := hpp
    clear hcl2 hpp
    gi_wp2
    gi_loopg [21] n (fun gh s21 wr => ∃ (k : Nat) (zr : List Int), k ≤ n ∧ gh = n - k ∧ s21 = .int .i64 k ∧ zr.length = n ∧ Row wr (B0 + 1) 3 .i64 zr ∧ (∀ i, i < k → zr.getD i 0 = (txs zs p).getD i 0) ∧ Upd [B0 + 1] A wr)
    case atStart => exact ⟨0, ys, by omega, by omega, rfl, i5, i6, fun i hi => by omega, Upd.refl _ _⟩
    case round =>
      obtain ⟨k, zr, hk, rfl, rfl, hzl, hr, hzk, hU⟩ := hrel
      have HZ : Hid (∀ _, _) := hzk
      clear hzk
      by_cases hlt : k < n
      · obtain ⟨v, hv⟩ : ∃ v, p.getD k 0 = v := ⟨_, rfl⟩
        have hvn : v < n := by
          have := HPP.out.lt (p.getD k 0) (by rw [List.getD_eq_getElem?_getD, List.getElem?_eq_getElem (by omega)]; exact List.getElem_mem _)
          rw [HG.out.gn, hv] at this
          exact this
        have hsz := hU.size
        have o1 : wr.cell? ⟨bo, k, none⟩ = some (.int .i64 (v : Int)) := by
          have := HCL.out k (by rw [hx]; exact hlt)
          rw [ints_get, hv] at this
          exact hU.cell this (by simp; omega)
        have t1 : wr.cell? ⟨bt, v, none⟩ = some (.int .i64 (zs.getD v 0)) := hU.cell (HGG.out.1.tx v hvn) (by have := HGG.out.1.lt; simp; omega)
        have g1 : wr.cell? ⟨bG, 0, none⟩ = some (.slice (some ⟨bt, 0, none⟩) n ct) := hU.cell HGG.out.1.c0 (by have := HGG.out.1.lG; simp; omega)
        have g2 : wr.cell? ⟨Bc, 0, none⟩ = some (.pointer (some ⟨bG, 0, none⟩)) := hU.cell HGG.out.2.2 (by simp; omega)
        have g3 : wr.cell? ⟨B0 + 1 + 1, 0, none⟩ = some (.slice (some ⟨B0 + 1, 0, none⟩) n n) := hU.cell i4 (by simp)
        have rc := hr.cell (i := k) (by omega)
        have rf := hr.free k
        have b1 : (k : Int) < (n : Int) := by omega
        have b2 : (v : Int) < (n : Int) := by omega
        generalize zr.getD k 0 = y0 at *
        obtain ⟨y, hy⟩ : ∃ y, zs.getD v 0 = y := ⟨_, rfl⟩
        rw [hy] at t1
        gi_wp2
        refine region_round 9 rfl (by kernel_rfl) (by kernel_rfl) ?_ ?_
        · rintro ⟨a', w', hq⟩
          exact hq
        replace o1 : wr.drew.cell? _ = _ := o1
        replace t1 : wr.drew.cell? _ = _ := t1
        replace g1 : wr.drew.cell? _ = _ := g1
        replace g2 : wr.drew.cell? _ = _ := g2
        replace g3 : wr.drew.cell? _ = _ := g3
        replace rc : wr.drew.cell? _ = _ := rc
        replace rf : wr.drew.frozen? _ = _ := rf
        have hU2 := hU.drew
        have hr2 : Row wr.drew (B0 + 1) 3 .i64 zr := hr
        generalize wr.drew = w7 at *
        simp only [List.take_succ_cons, List.take_zero, List.drop_succ_cons, List.drop_zero]
        repeat still_step
        refine wpStill_nil ?_
        have HRS : Hid (Row _ _ _ _ _) := hr2.set k y
        have HUS : Hid (Upd _ _ _) := hU2.setCell (p := ⟨B0 + 1, k, none⟩) (by simp) (.int .i64 y)
        have HZ2 : Hid (∀ i, i < k + 1 → (zr.set k y).getD i 0 = (txs zs p).getD i 0) := fun i hi => by
          rw [getD_set _ _ _ _ (by omega)]
          by_cases e : k = i
          · subst e
            rw [if_pos rfl, ← hy, ← hv]
            simp [txs, List.getD_eq_getElem?_getD, List.getElem?_eq_getElem (show k < p.length by omega)]
          · rw [if_neg e]; exact HZ.out i (by omega)
        clear hr2 hU2 HZ
        go_wp2_with fail
        gi_wp2
        gi_roundg (n - (k + 1))
        case measure => omega
        case rel => exact ⟨k + 1, zr.set k y, by omega, rfl, by go_num, by simpa using hzl, HRS.out, HZ2.out, HUS.out⟩
      · obtain rfl : k = n := by omega
        have htx : txI zs (ints p) = txs zs p := by simp [txI, ints, txs]
        have htl : (txs zs p).length = k := by rw [txs_len, hpl]
        have hsz := hU.size
        have c3 : wr.cell? ⟨B0, 0, none⟩ = some (.func (.yield l) #[] #[]) := hU.cell i3 (by simp)
        have c4 : wr.cell? ⟨B0 + 1 + 1, 0, none⟩ = some (.slice (some ⟨B0 + 1, 0, none⟩) k k) := hU.cell i4 (by simp)
        have hcs : Cells wr (B0 + 1) (txs zs p) := fun i hi => by
          rw [htl] at hi
          rw [← HZ.out i hi]
          exact hr.cell (by omega)
        have hpm : pre.map (txI zs) ++ [txs zs p] <+: (ordersOf g k).map (txI zs) := by
          have := hp.map (txI zs)
          rwa [List.map_append, List.map_singleton, htx] at this
        have hyl := HA.out.rounds (m - 1) B1 (pre.map (txI zs)) (txs zs p) (B0 + 1) k wr (by omega) (by omega) (by omega) hpm htl (HA.out.st _ _ _ _ i1 (Keep.of_upd hU (fun q hq => by simp at hq; omega))) hcs
        rw [hB0] at hyl
        have HSA : Hid (Same w4.heap.size B1 A wr) := ⟨hU.size, fun q q1 q2 => hU.same q (by omega) (by simp; omega)⟩
        obtain ⟨fn, tmps, assign, body, hy, hR⟩ := hyl
        clear hcs hpm
        have HRo : Hid (RoundIn (Fence.wide.inRound l') (m - 1) Ybad.prog l fn tmps assign body wr _) := hR
        clear hR
        gi_wp2
        refine ⟨fun q => (by cases q), HRo.out.mono ?_⟩
        rintro e W' ⟨hs, ⟨rfl, hj⟩ | ⟨rfl, hj⟩⟩
        · have HJ : Hid (J B1 ((pre ++ [ints p]).map (txI zs)) W') := by
            show J B1 ((pre ++ [ints p]).map (txI zs)) W'
            rw [List.map_append, List.map_singleton, htx]; exact hj
          have d3 : W'.cell? ⟨B0, 0, none⟩ = some (.func (.yield l) #[] #[]) := (World.cell?_of_block (w := wr) (hs.2 B0 (by omega) (by omega))).trans c3
          have d4 : W'.cell? ⟨B0 + 1 + 1, 0, none⟩ = some (.slice (some ⟨B0 + 1, 0, none⟩) k k) := (World.cell?_of_block (w := wr) (hs.2 (B0 + 1 + 1) (by omega) (by omega))).trans c4
          have hr3 := hr.of_block (hs.2 (B0 + 1) (by omega) (by omega))
          have HSS : Hid (Same w4.heap.size B1 A W') := HSA.out.trans (hs.mono (by omega) (Nat.le_refl _))
          clear hj c3 c4 hr hs
          gi_wp2
          exact ⟨HSS.out, HJ.out, i2, d3, d4, zr, hzl, hr3⟩
        · have HJ : Hid (Jx B1 ((pre ++ [ints p]).map (txI zs)) W') := by
            show Jx B1 ((pre ++ [ints p]).map (txI zs)) W'
            rw [List.map_append, List.map_singleton, htx]; exact hj
          have HSS : Hid (Same w4.heap.size B1 A W') := HSA.out.trans (hs.mono (by omega) (Nat.le_refl _))
          clear hj c3 c4 hr hs
          gi_wp2
          exact ⟨HSS.out, rfl, HJ.out, i2⟩
end Go.Proofs.YbulkbhcsDoor
