import Derived.Test.YbulkbhcsDoorFirst
import Derived.Test.YbulkbhcsDoorPerm
import Derived.Test.YbulkbhcsDoorModel
import Derived.Test.YbulkbhcsDoorOut2
namespace Go.Proofs.YbulkbhcsDoor
open Go.RowKit Go.Shelf
attribute [local go_sem] Oper.semAt_some

/-- What is wanted. -/
def cutL (k : Nat) (L : List (List Int)) : List (List Int) := if 0 < k ∧ k < L.length then L.take k else L
theorem want_eq {g : List (List Nat)} {n : Nat} {zs : List Int} (ho : Ok g) (hn : g.length = n) (h1 : 1 ≤ n) : (ordersOf g n).map (txI zs) = ((CH n).filter (topoB g)).map (txs zs) := by
  rw [orders_perm ho hn h1, List.map_map]
  refine List.map_congr_left fun p _ => ?_
  simp [txI, ints, txs]
theorem LL.take {w : World} {n k b cap : Nat} {xs : List (List Int)} (h : LLb w n b cap (.slice (some ⟨b, 0, none⟩) xs.length cap) xs) (hk : k ≤ xs.length) : LL w n (.slice (some ⟨b, 0, none⟩) k cap) (xs.take k) := by
  have hl : (xs.take k).length = k := by simp; omega
  refine .inr ⟨b, cap, by rw [hl], by have := h.le; omega, fun i hi => ?_⟩
  rw [hl] at hi
  obtain ⟨r, c, q1, q2⟩ := h.rows i (by omega)
  refine ⟨r, c, q1, fun j hj => ?_⟩
  rw [q2 j hj]
  congr 3
  simp only [List.getD_eq_getElem?_getD]
  rw [List.getElem?_take_of_lt hi]

set_option maxHeartbeats 1000000 in
set_option maxRecDepth 100000 in
theorem orders_law (w : World) (a0 a1 a2 : Int) (a3 : Option Addr) (len cap : Nat) (a4 : Int) (h0 : 0 ≤ a0) (h4 : 0 ≤ a4) (hm : len ≤ maxLen)
    (hd : len = 0 ∨ ∃ b off, a3 = some ⟨b, off, none⟩ ∧ ∀ i, i < len → ∃ x, w.cell? ⟨b, off + i, none⟩ = some (.int .u8 x)) (hdeb : Deb w) :
    Calls Ybad.prog 3 #[.int .u8 a0, .int .u32 a1, .int .i16 a2, .slice a3 len cap, .int .u8 a4] w fun e w' => e = .returned (.bool true) ∧ Below w.heap.size w w' := by
  obtain ⟨r, hr, hr6⟩ : ∃ r : Nat, Int.tmod a0 6 = (r : Int) ∧ r < 6 := ⟨(Int.tmod a0 6).toNat, by rw [Int.tmod_eq_emod_of_nonneg h0]; omega, by rw [Int.tmod_eq_emod_of_nonneg h0]; omega⟩
  obtain ⟨kk, hkk, hk8⟩ : ∃ r : Nat, Int.tmod a4 8 = (r : Int) ∧ r < 8 := ⟨(Int.tmod a4 8).toNat, by rw [Int.tmod_eq_emod_of_nonneg h4]; omega, by rw [Int.tmod_eq_emod_of_nonneg h4]; omega⟩
  obtain ⟨n, hn⟩ : ∃ n, r + 1 = n := ⟨_, rfl⟩
  have hq1 : (1 : Int) + (r : Int) = (n : Int) := by omega
  have hn1 : 1 ≤ n := by omega
  have hn6 : n ≤ 6 := by omega
  have hw0 : 0 < w.heap.size := World.block_lt_of_cell? w _ (hdeb 0 (by omega))
  have HDB : Hid (Deb w) := hdeb
  have HD : Hid (_ ∨ _) := hd
  clear hdeb hd
  refine (callsIn_wide (n := 9)).1 (callsIn_of_wp_marks Ybad.func3 rfl trivial ?_ rfl)
  simp only [Ybad.ntmps3, List.size_toArray, List.length_cons, List.length_nil, Nat.reduceAdd, Nat.reduceSub, Array.replicate_succ, Array.replicate_zero, List.push_toArray, List.append_toArray, List.nil_append, List.cons_append]
  refine wpIn_wide.2 ?_
  go_upto_region 3 with fail
  obtain ⟨k12, hb0, s0⟩ := one1 w (.cells #[.int .i64 kk] 3)
  obtain ⟨B12, hB12⟩ : ∃ b, w.heap.size = b := ⟨_, rfl⟩
  rw [hB12] at k12 hb0 s0 hw0
  simp only [hB12]
  have hd2 : len = 0 ∨ ∃ b off, a3 = some ⟨b, off, none⟩ ∧ ∀ i, i < len → ∃ x, (w.alloc (.cells #[.int .i64 kk] 3)).cell? ⟨b, off + i, none⟩ = some (.int .u8 x) := by
    rcases HD.out with h | ⟨b, off, q1, q2⟩
    · exact .inl h
    · refine .inr ⟨b, off, q1, fun i hi => ?_⟩
      obtain ⟨x, hx⟩ := q2 i hi
      exact ⟨x, (hb0.cell (p := ⟨b, off + i, none⟩) (by rw [← hB12]; exact World.block_lt_of_cell? w _ hx)).trans hx⟩
  generalize w.alloc (.cells #[.int .i64 kk] 3) = w0 at *
  have H5 : Hid (Calls Ybad.prog 5 _ _ _) := build_ok w0 n (by omega) (by omega) a1 a2 a3 len cap hm hd2
  clear hd2 HD hm
  go_upto_region 4 with (go_at_call 5; refine H5.out.mono ?_; rintro e w1 ⟨bG, bt, bg, zs, g, rfl, hg, hb1⟩)
  obtain ⟨B, hB⟩ : ∃ b, w1.heap.size = b := ⟨_, rfl⟩
  rw [hB] at hg
  replace k12 := blk hb1 k12
  have c0 : w1.drew.cell? ⟨bG, 0, none⟩ = _ := hg.c0
  have c5 : w1.drew.cell? ⟨bG, 5, none⟩ = _ := hg.c5
  have hg' : GG B w1.drew bG bt bg n n n zs g := hg.below (below_drewN (Below.refl _ _) 1)
  have H6 : Hid (Calls Ybad.prog 6 _ _ _) := model_ok w1.drew B bt bg n n n zs g hg'.ok hg'.gn hg'.n1 hg'.zn (by show B ≤ w1.heap.size; omega) hg'.gr hg'.tx
  have hLL : ((CH n).filter (topoB g)).length ≤ 720 := Nat.le_trans (List.length_filter_le _ _) (CH_len n (by omega))
  have HWE : Hid (_ = _) := want_eq (zs := zs) hg'.ok hg'.gn hg'.n1
  obtain ⟨L, hL⟩ : ∃ L, ((CH n).filter (topoB g)).map (txs zs) = L := ⟨_, rfl⟩
  rw [hL] at HWE H6
  have hLlen : L.length ≤ 720 := by rw [← hL, List.length_map]; exact hLL
  have hd1 : Below w1.heap.size w1 w1.drew := (Below.refl _ _).drew
  clear hLL hL hg
  refine wp_region_still_tail 8 rfl (by kernel_rfl) ?_
  change wpStill _ _ w1.drew (fun a' => wpList _ _ _ _ a' w1.drew) _ _
  generalize w1.drew = w1' at *
  simp only [List.take_succ_cons, List.take_zero, List.drop_succ_cons, List.drop_zero]
  repeat still_step
  refine wpStill_nil ?_
  go_upto_region 5 with (go_at_call 6; refine H6.out.mono ?_; rintro e w2 ⟨vw, rfl, hwant, hb2⟩)
  have hg2 := hg'.below (hb2.mono (by have := hd1.size; omega))
  have hs2 := hb2.size
  have hs1 := hd1.size
  have hbw2 : Below B12 w w2 := hb0.trans ((hb1.mono (by omega)).trans ((hd1.mono (by have := hb1.size; omega)).trans (hb2.mono (by have := hb1.size; omega))))
  replace k12 := blk hb2 (blk hd1 k12)
  have HWANT : Hid (LL _ _ _ _) := hwant
  have HG2 : Hid (GG _ _ _ _ _ _ _ _ _ _) := hg2
  have c12 := cell_of k12
  clear hg' hg2 hwant H6 H5 hb0 hb1 hb2 hd1 c0 c5
  go_cut [45] from 38 to 45 (fun s45 wd => s45 = .bool (decide (0 < kk ∧ kk < L.length)) ∧ wd = w2)
  case first =>
    by_cases hk0 : kk = 0
    · subst hk0
      have k0 : w2.cell? ⟨B12, 0, none⟩ = some (.int .i64 0) := c12
      go_wp2_with fail
      go_meet
      exact ⟨by simp, rfl⟩
    · have hkp : (0 : Int) < (kk : Int) := by omega
      rcases HWANT.out with ⟨rfl, hL0⟩ | ⟨b, cp, hv, hle, hrows⟩
      · subst hL0
        have hc1 : ¬ (kk : Int) < 0 := by omega
        go_wp2_with fail
        go_meet
        exact ⟨by simp, rfl⟩
      · subst hv
        by_cases hkl : kk < L.length
        · have hc1 : (kk : Int) < (L.length : Int) := by omega
          go_wp2_with fail
          go_meet
          exact ⟨by have : 0 < kk := by omega
                    simp [this, hkl], rfl⟩
        · have hc1 : ¬ (kk : Int) < (L.length : Int) := by omega
          go_wp2_with fail
          go_meet
          exact ⟨by simp [hkl], rfl⟩
  case rest =>
    obtain ⟨rfl, rfl⟩ := hcut
    generalize wc = w3 at *
    go_upto_if 45 with fail
    go_cut [14, 45] from 46 to 48 (fun s14 s45 wd => LL wd n s14 (cutL kk L) ∧ wd = w3)
    case first =>
      by_cases hc : 0 < kk ∧ kk < L.length
      · have hcut : cutL kk L = L.take kk := if_pos hc
        have hdt : decide (0 < kk ∧ kk < L.length) = true := by simpa using hc
        rcases HWANT.out with ⟨_, hL0⟩ | ⟨b, cp, hv, hle, hrows⟩
        · subst hL0; simp at hc
        · subst hv
          have HLT : Hid (LL _ _ _ _) := LL.take (cap := cp) ⟨rfl, hle, hrows⟩ (k := kk) (by omega)
          rw [hdt]
          have hb1 : (kk : Int) ≤ (cp : Int) := by omega
          go_wp2_with fail
          go_meet
          rw [hcut]
          exact ⟨HLT.out, rfl⟩
      · have hcut : cutL kk L = L := if_neg hc
        have hdt : decide (0 < kk ∧ kk < L.length) = false := by simpa using hc
        rw [hdt]
        go_wp2_with fail
        go_meet
        rw [hcut]
        exact ⟨HWANT.out, rfl⟩
    case rest =>
      obtain ⟨hwl, rfl⟩ := hcut
      have HWL : Hid (LL _ _ _ _) := hwl
      clear hwl HWANT c12
      generalize wc = w4 at *
      go_upto_region 8 with fail
      obtain ⟨k15, hb3, s3⟩ := one1 w4 (.cells #[.slice none 0 0] 27)
      obtain ⟨B15, hB15⟩ : ∃ b, w4.heap.size = b := ⟨_, rfl⟩
      have hBB := lt_of_block k12
      rw [hB15] at k15 s3 hBB
      simp only [hB15]
      have hb43 := hbw2.trans (hb3.mono (by have := hbw2.size; omega))
      replace k12 := blk hb3 k12
      have hg3 := HG2.out.below (hb3.mono (by omega))
      generalize w4.alloc (.cells #[.slice none 0 0] 27) = w5 at *
      have H7 : Hid (Calls Ybad.prog 7 _ _ _) := serials_ok w5 bG
      go_wp2_with (go_at_call 7; refine H7.out.mono ?_; rintro e w6 ⟨rfl, rfl⟩)
      obtain ⟨k25, hb5, s6⟩ := one1 w5 (.cells #[.pointer (some ⟨bG, 0, none⟩)] 25)
      rw [s3] at k25 s6
      have hb6 := hb43.trans (hb5.mono (by have := hb43.size; omega))
      replace k12 := blk hb5 k12
      replace k15 := blk hb5 k15
      have hg6 := hg3.below (hb5.mono (by omega))
      have hb46 := hb3.trans (hb5.mono (by omega))
      rw [hB15] at hb46
      generalize w5.alloc (.cells #[.pointer (some ⟨bG, 0, none⟩)] 25) = w6 at *
      have HG : Hid (GG _ _ _ _ _ _ _ _ _ _) := hg6
      clear hg3 hg6 H7 HG2 hb3 hb5 hbw2
      refine wp_range (gf := 13) (lb := #[.pointer (some ⟨B15 + 1, 0, none⟩)]) rfl (enters_of Ybad.func13 (by kernel_rfl) rfl) rfl (n := n) (xs := (ordersOf g n).map (txI zs)) (G := fun A => GG B A bG bt bg n n n zs g ∧ Deb A ∧ A.cell? ⟨B15 + 1, 0, none⟩ = some (.pointer (some ⟨bG, 0, none⟩))) ?seq
        (fun B1 pre A => w6.heap.size ≤ B1 ∧ w6.heap.size ≤ A.heap.size ∧ Upd [B15] w6 A ∧ (∃ v, A.heap[B15]? = some (.cells #[v] 27 (0, 0)) ∧ Own2 A B1 n v pre) ∧ (kk = 0 ∨ pre.length < kk))
        (fun c B1 pre A => c = .exit 0 ∧ w6.heap.size ≤ B1 ∧ w6.heap.size ≤ A.heap.size ∧ Upd [B15] w6 A ∧ (∃ v, A.heap[B15]? = some (.cells #[v] 27 (0, 0)) ∧ Own2 A B1 n v pre) ∧ pre.length = kk)
        ?sI ?sIx ?gI ?start (fun v => ⟨(List.toArray ((.int .u8 a0) :: (.int .u32 a1) :: (.int .i16 a2) :: (.slice a3 len cap) :: (.int .u8 a4) :: undef :: undef :: undef :: undef :: undef :: (.bool false) :: (.int .i64 (n : Int)) :: (.pointer (some ⟨B12, 0, none⟩)) :: (.pointer (some ⟨bG, 0, none⟩)) :: u14 :: (.pointer (some ⟨B15, 0, none⟩)) :: v :: (.int .u8 a0) :: (.int .u8 (r : Int)) :: (.int .i64 (r : Int)) :: (.int .i64 (n : Int)) :: (.int .u8 a4) :: (.int .u8 (kk : Int)) :: (.int .i64 (kk : Int)) :: (.int .i64 (n : Int)) :: (.int .u32 a1) :: (.int .i16 a2) :: (.slice a3 len cap) :: (.pointer (some ⟨bG, 0, none⟩)) :: (.pointer (some ⟨bG, 0, none⟩)) :: (.pointer (some ⟨bG, 0, none⟩)) :: (.pointer (some ⟨bG, 0, none⟩)) :: (.slice (some ⟨bt, 0, none⟩) n n) :: (.pointer (some ⟨bG, 0, none⟩)) :: (.pointer (some ⟨bG, 0, none⟩)) :: (.pointer (some ⟨bG, 5, none⟩)) :: (.slice (some ⟨bg, 0, none⟩) n n) :: vw :: u38 :: u39 :: u40 :: u41 :: u42 :: u43 :: u44 :: u45 :: u46 :: u47 :: u48 :: (.pointer (some ⟨bG, 0, none⟩)) :: (.func (.func 13) #[] #[.pointer (some ⟨B15 + 1, 0, none⟩)]) :: v :: undef :: undef :: undef :: undef :: undef :: undef :: undef :: undef :: undef :: undef :: undef :: undef :: undef :: undef :: undef :: undef :: [])), []⟩) ?assign ?body ?done ?stop
      case seq =>
        intro W' hb l' J' Jx' q1 q2 q3 q4 q5
        exact serials1_ok W' B (B15 + 1) bG bt bg n n n l' zs g (by have := hb.size; omega) (HG.out.below (hb.mono (by omega))) (HDB.out.of_block ((hb.block 0 (by omega)).trans (hb6.block 0 hw0))) (cell_of (blk hb k25)) J' Jx' q2 ⟨q1, q3, q4, q5⟩
      case sI =>
        rintro B1 pre A A' ⟨q1, q2, q3, ⟨v, q4, q5⟩, q6⟩ hk
        refine ⟨q1, Nat.le_trans q2 hk.size, ⟨hk.os.trans q3.os, hk.tape.trans q3.tape, hk.output.trans q3.output, Nat.le_trans q2 hk.size, fun k k1 k2 => (hk.same k (by omega) (by omega)).trans (q3.same k k1 k2)⟩, ⟨v, (hk.same B15 (by omega) (by omega)).trans q4, q5.keep (fun k k1 k2 => hk.same k k2 (by omega))⟩, q6⟩
      case sIx =>
        rintro c B1 pre A A' ⟨q0, q1, q2, q3, ⟨v, q4, q5⟩, q6⟩ hk
        refine ⟨q0, q1, Nat.le_trans q2 hk.size, ⟨hk.os.trans q3.os, hk.tape.trans q3.tape, hk.output.trans q3.output, Nat.le_trans q2 hk.size, fun k k1 k2 => (hk.same k (by omega) (by omega)).trans (q3.same k k1 k2)⟩, ⟨v, (hk.same B15 (by omega) (by omega)).trans q4, q5.keep (fun k k1 k2 => hk.same k k2 (by omega))⟩, q6⟩
      case gI =>
        rintro B1 pre A ⟨q1, q2, q3, _, _⟩
        exact ⟨HG.out.below (q3.below (by intro k hk; simp at hk; omega) (by omega)), HDB.out.of_block ((q3.same 0 (by omega) (by simp; omega)).trans (hb6.block 0 hw0)), q3.cell (cell_of k25) (by simp)⟩
      case start =>
        intro B1 A q1 q2 hb
        exact ⟨q1, hb.size, Upd.of_below hb, ⟨_, blk hb k15, Own2.nil _ _ _⟩, by rw [List.length_nil]; omega⟩
      case assign =>
        intro l' m v A K hK
        gi_wp2
        exact hK
      case done =>
        rintro D B1 A hD hD2 ⟨q1, q2, q3, ⟨v, q4, q5⟩, q6⟩ hK
        rw [HWE.out] at q5 q6
        have hcl : cutL kk L = L := if_neg (by omega)
        have hbA : Below B15 w4 A := hb46.trans (q3.below (by intro k hk; simp at hk; omega) (by omega))
        have hwA : LL A n u14 L := by
          have := HWL.out.below (w' := A) (by rw [hB15]; exact hbA)
          rwa [hcl] at this
        have H9 : Hid (Calls Ybad.prog 9 _ _ _) := eqs_ok A n hn6 v u14 L (by omega) q5.ll hwA
        have c15 := cell_of q4
        have hbw : Below w.heap.size w A := by rw [hB12]; exact hb6.trans (q3.below (by intro k hk; simp at hk; omega) (by omega))
        have HBW : Hid (Below _ _ _) := hbw
        clear hwA hbw hbA q5
        go_wp2_with (go_at_call 9; refine H9.out.mono ?_; rintro e w7 ⟨rfl, hb7⟩)
        refine ⟨by simp, .inl ⟨_, _, rfl, run_takeDeferred (blk hb7 hK), ?_⟩⟩
        refine ⟨_, results_tmp rfl _ _ _, rfl, ?_⟩
        have hbe := HBW.out.trans (hb7.mono HBW.out.size)
        exact hbe.trans (Keep.below (lo := w.heap.size) (hi := D + 1) (Keep.put w7 (by omega) _) hbe.size)
      case stop =>
        rintro D B1 c pre A hD hD2 hp hne ⟨rfl, q1, q2, q3, ⟨v, q4, q5⟩, q6⟩ hK
        rw [HWE.out] at hp
        have hpl := hp.length_le
        have hk0 : 0 < kk := by
          have := List.length_pos_iff.2 hne
          omega
        have hpe : pre = L.take kk := by rw [← q6]; exact List.prefix_iff_eq_take.1 hp
        have hcl : cutL kk L = pre := by
          unfold cutL
          split
          · exact hpe.symm
          · rw [hpe, List.take_of_length_le (by omega)]
        have hbA : Below B15 w4 A := hb46.trans (q3.below (by intro k hk; simp at hk; omega) (by omega))
        have hwA : LL A n u14 pre := by
          have := HWL.out.below (w' := A) (by rw [hB15]; exact hbA)
          rwa [hcl] at this
        have H9 : Hid (Calls Ybad.prog 9 _ _ _) := eqs_ok A n hn6 v u14 pre (by omega) q5.ll hwA
        have c15 := cell_of q4
        have hbw : Below w.heap.size w A := by rw [hB12]; exact hb6.trans (q3.below (by intro k hk; simp at hk; omega) (by omega))
        have HBW : Hid (Below _ _ _) := hbw
        clear hwA hbw hbA q5
        go_wp2_with (go_at_call 9; refine H9.out.mono ?_; rintro e w7 ⟨rfl, hb7⟩)
        refine ⟨by simp, .inl ⟨_, _, rfl, run_takeDeferred (blk hb7 hK), ?_⟩⟩
        refine ⟨_, results_tmp rfl _ _ _, rfl, ?_⟩
        have hbe := HBW.out.trans (hb7.mono HBW.out.size)
        exact hbe.trans (Keep.below (lo := w.heap.size) (hi := D + 1) (Keep.put w7 (by omega) _) hbe.size)
      case body =>
        rintro l' m B1 pre x bo cap' A t1 t2 t3 hp hx ⟨q1, q2, q3, ⟨v, q4, q5⟩, q6⟩ hcl2
        have hpl : pre.length + 1 ≤ 720 := by
          have h2 := hp.length_le
          rw [HWE.out, List.length_append, List.length_singleton] at h2
          omega
        gi_wp2
        refine wpIn_region_any rfl (any_round l' m (by kernel_rfl) ?_ _ _ _ _ ?_)
        · rintro ⟨a', w', hq⟩
          exact hq
        change wpAny _ _ _ _ 6 (Array.replicate 6 false) _ A.drew
        have c15 : A.drew.cell? ⟨B15, 0, none⟩ = some v := cell_of q4
        have f15 : A.drew.frozen? ⟨B15, 0, none⟩ = false := free_of q4
        have H8 : Hid (Calls Ybad.prog 8 _ _ _) := clone_ok A.drew bo n cap' x hx hn1 hn6 (fun i hi => hcl2 i (by omega))
        have hbd : Below A.heap.size A A.drew := (Below.refl _ _).drew
        have hAs : A.drew.heap.size = A.heap.size := rfl
        have hB15A : B15 < A.drew.heap.size := lt_of_block q4
        generalize A.drew = A1 at *
        refine any_pick (rs := [0, 1]) (by kernel_rfl) (by simp) ?_
        intro i hi
        simp only [List.mem_cons, List.not_mem_nil, or_false] at hi
        rcases hi with rfl | rfl
        · refine ⟨_, rfl, ?_⟩
          go_wp2_with fail
          refine any_pick (rs := [1]) (by kernel_rfl) (by simp) ?_
          intro i hi
          simp only [List.mem_cons, List.not_mem_nil, or_false] at hi
          subst hi
          refine ⟨_, rfl, ?_⟩
          go_wp2_with fail
          refine any_pick (rs := [2]) (by kernel_rfl) (by simp) ?_
          intro i hi
          simp only [List.mem_cons, List.not_mem_nil, or_false] at hi
          subst hi
          refine ⟨_, rfl, ?_⟩
          go_wp2_with fail
          refine H8.out.mono ?_
          rintro e wC ⟨gb, cp, rfl, hgb, hgc, hbC⟩
          have d15 := (hbC.cell (p := ⟨B15, 0, none⟩) hB15A).trans c15
          have e15 : (wC.alloc (.cells #[.slice (some ⟨gb, 0, none⟩) n cp] 29)).cell? ⟨B15, 0, none⟩ = some v := (World.cell?_of_block (w := wC) (Below.heap_alloc _ _ _ (by have := hbC.size; show B15 < _; omega))).trans d15
          have HC : Hid (∀ _, _) := hgc
          clear hgc
          go_wp2_with fail
          refine any_pick (rs := [3]) (by kernel_rfl) (by simp) ?_
          intro i hi
          simp only [List.mem_cons, List.not_mem_nil, or_false] at hi
          subst hi
          refine ⟨_, rfl, ?_⟩
          go_wp2_with fail
          have hgl := World.block_lt_of_cell? wC _ (HC.out 0 (by omega))
          dsimp only at hgl
          have hsC := hbC.size
          have HOD : Hid (Own2 (wC.alloc (.cells #[.slice (some ⟨gb, 0, none⟩) n cp] 29)) B1 n v pre) := q5.keep (fun k k1 k2 => ((Below.heap_alloc _ _ _ (by omega)).trans (hbC.block k (by omega))).trans (hbd.block k k2))
          have HRD : Hid (∀ j, j < n → (wC.alloc (.cells #[.slice (some ⟨gb, 0, none⟩) n cp] 29)).cell? ⟨gb, j, none⟩ = some (.int .i64 (x.getD j 0))) := fun j hj => (World.cell?_of_block (w := wC) (Below.heap_alloc _ _ _ hgl)).trans (HC.out j hj)
          have hnw := heap_new wC (.cells #[.slice (some ⟨gb, 0, none⟩) n cp] 29)
          have HCD : Hid (_ = _) := cell_of hnw
          have hbD : Below B1 A (wC.alloc (.cells #[.slice (some ⟨gb, 0, none⟩) n cp] 29)) := ((hbd.mono (by omega)).trans (hbC.mono (by omega))).alloc (by omega) _
          have hsD : (wC.alloc (.cells #[.slice (some ⟨gb, 0, none⟩) n cp] 29)).heap.size = wC.heap.size + 1 := by simp
          clear hnw e15 d15 c15 f15 H8
          generalize wC.alloc (.cells #[.slice (some ⟨gb, 0, none⟩) n cp] 29) = wD at *
          refine any_pick (rs := [4]) (by kernel_rfl) (by simp) ?_
          intro i hi
          simp only [List.mem_cons, List.not_mem_nil, or_false] at hi
          subst hi
          refine ⟨_, rfl, ?_⟩
          go_wp2_with (refine wpList_out2 rfl (.tmp 52) (.tmp 55) rfl B1 n hn1 v rfl pre HOD.out (by omega) wC.heap.size gb cp rfl HCD.out x HRD.out (by omega) (by omega) ?_; intro g' cap2 wF k1 k2)
          have hbF := hbD.trans k2
          have r15 := (hbF.block B15 (by omega)).trans q4
          have r12 := (hbF.block B12 (by omega)).trans ((q3.same B12 (by omega) (by simp; omega)).trans k12)
          have c15 := cell_of r15
          have f15 := free_of r15
          have HK1 : Hid (Own2 _ _ _ _ _) := k1
          clear k1 k2 hbD HOD HRD HCD
          refine any_pick (rs := [5]) (by kernel_rfl) (by simp) ?_
          intro i hi
          simp only [List.mem_cons, List.not_mem_nil, or_false] at hi
          subst hi
          refine ⟨_, rfl, ?_⟩
          go_wp2_with fail
          refine ⟨by kernel_rfl, ?_⟩
          have r15E := set_one (u := .slice (some ⟨g', 0, none⟩) (pre.length + 1) cap2) r15
          have r12E : (wF.setCell ⟨B15, 0, none⟩ (.slice (some ⟨g', 0, none⟩) (pre.length + 1) cap2)).heap[B12]? = _ := (Below.heap_setCell _ _ _ _ (by simp; omega)).trans r12
          have HOE : Hid (Own2 (wF.setCell ⟨B15, 0, none⟩ (.slice (some ⟨g', 0, none⟩) (pre.length + 1) cap2)) B1 n (.slice (some ⟨g', 0, none⟩) (pre.length + 1) cap2) (pre ++ [x])) := HK1.out.keep (fun k k1 k2 => Below.heap_setCell _ _ _ _ (by simp; omega))
          have HEs : Hid (∀ k, k < B1 → k ≠ B15 → (wF.setCell ⟨B15, 0, none⟩ (.slice (some ⟨g', 0, none⟩) (pre.length + 1) cap2)).heap[k]? = A.heap[k]?) := fun k e1 e2 => (Below.heap_setCell _ _ _ _ (by simpa using e2)).trans (hbF.block k e1)
          have HUE : Hid (Upd [B15] w6 (wF.setCell ⟨B15, 0, none⟩ (.slice (some ⟨g', 0, none⟩) (pre.length + 1) cap2))) := ⟨hbF.os.trans q3.os, hbF.tape.trans q3.tape, hbF.output.trans q3.output, by simp; have := hbF.size; omega, fun k e1 e2 => (HEs.out k (by omega) (by simpa using e2)).trans (q3.same k e1 e2)⟩
          have HSE : Hid (Same w6.heap.size B1 A (wF.setCell ⟨B15, 0, none⟩ (.slice (some ⟨g', 0, none⟩) (pre.length + 1) cap2))) := ⟨by simp; exact hbF.size, fun k e1 e2 => HEs.out k e2 (by omega)⟩
          have hsE : A.heap.size ≤ (wF.setCell ⟨B15, 0, none⟩ (.slice (some ⟨g', 0, none⟩) (pre.length + 1) cap2)).heap.size := HSE.out.1
          clear c15 f15 r15 r12 hbF HK1 HEs
          generalize wF.setCell ⟨B15, 0, none⟩ (.slice (some ⟨g', 0, none⟩) (pre.length + 1) cap2) = wE at *
          have c15 := cell_of r15E
          have c12 := cell_of r12E
          by_cases hk0 : kk = 0
          · have c0 : wE.cell? ⟨B12, 0, none⟩ = some (.int .i64 0) := by rw [hk0] at c12; exact c12
            clear c12
            gi_wp2
            exact ⟨HSE.out, q1, by omega, HUE.out, ⟨_, r15E, HOE.out⟩, .inl hk0⟩
          · have hkp : (0 : Int) < (kk : Int) := by omega
            by_cases hkl : pre.length + 1 = kk
            · have hkb : ((pre.length : Int) + 1 == (kk : Int)) = true := by rw [beq_iff_eq]; omega
              gi_wp2
              exact ⟨HSE.out, rfl, q1, by omega, HUE.out, ⟨_, r15E, HOE.out⟩, by simp; omega⟩
            · have hkb : ((pre.length : Int) + 1 == (kk : Int)) = false := by rw [beq_eq_false_iff_ne]; omega
              gi_wp2
              exact ⟨HSE.out, q1, by omega, HUE.out, ⟨_, r15E, HOE.out⟩, .inr (by simp; omega)⟩
        · refine ⟨_, rfl, ?_⟩
          go_wp2_with fail
          refine any_pick (rs := [0, 2]) (by kernel_rfl) (by simp) ?_
          intro i hi
          simp only [List.mem_cons, List.not_mem_nil, or_false] at hi
          rcases hi with rfl | rfl
          · refine ⟨_, rfl, ?_⟩
            go_wp2_with fail
            refine any_pick (rs := [2]) (by kernel_rfl) (by simp) ?_
            intro i hi
            simp only [List.mem_cons, List.not_mem_nil, or_false] at hi
            subst hi
            refine ⟨_, rfl, ?_⟩
            go_wp2_with fail
            refine H8.out.mono ?_
            rintro e wC ⟨gb, cp, rfl, hgb, hgc, hbC⟩
            have d15 := (hbC.cell (p := ⟨B15, 0, none⟩) hB15A).trans c15
            have e15 : (wC.alloc (.cells #[.slice (some ⟨gb, 0, none⟩) n cp] 29)).cell? ⟨B15, 0, none⟩ = some v := (World.cell?_of_block (w := wC) (Below.heap_alloc _ _ _ (by have := hbC.size; show B15 < _; omega))).trans d15
            have HC : Hid (∀ _, _) := hgc
            clear hgc
            go_wp2_with fail
            refine any_pick (rs := [3]) (by kernel_rfl) (by simp) ?_
            intro i hi
            simp only [List.mem_cons, List.not_mem_nil, or_false] at hi
            subst hi
            refine ⟨_, rfl, ?_⟩
            go_wp2_with fail
            have hgl := World.block_lt_of_cell? wC _ (HC.out 0 (by omega))
            dsimp only at hgl
            have hsC := hbC.size
            have HOD : Hid (Own2 (wC.alloc (.cells #[.slice (some ⟨gb, 0, none⟩) n cp] 29)) B1 n v pre) := q5.keep (fun k k1 k2 => ((Below.heap_alloc _ _ _ (by omega)).trans (hbC.block k (by omega))).trans (hbd.block k k2))
            have HRD : Hid (∀ j, j < n → (wC.alloc (.cells #[.slice (some ⟨gb, 0, none⟩) n cp] 29)).cell? ⟨gb, j, none⟩ = some (.int .i64 (x.getD j 0))) := fun j hj => (World.cell?_of_block (w := wC) (Below.heap_alloc _ _ _ hgl)).trans (HC.out j hj)
            have hnw := heap_new wC (.cells #[.slice (some ⟨gb, 0, none⟩) n cp] 29)
            have HCD : Hid (_ = _) := cell_of hnw
            have hbD : Below B1 A (wC.alloc (.cells #[.slice (some ⟨gb, 0, none⟩) n cp] 29)) := ((hbd.mono (by omega)).trans (hbC.mono (by omega))).alloc (by omega) _
            have hsD : (wC.alloc (.cells #[.slice (some ⟨gb, 0, none⟩) n cp] 29)).heap.size = wC.heap.size + 1 := by simp
            clear hnw e15 d15 c15 f15 H8
            generalize wC.alloc (.cells #[.slice (some ⟨gb, 0, none⟩) n cp] 29) = wD at *
            refine any_pick (rs := [4]) (by kernel_rfl) (by simp) ?_
            intro i hi
            simp only [List.mem_cons, List.not_mem_nil, or_false] at hi
            subst hi
            refine ⟨_, rfl, ?_⟩
            go_wp2_with (refine wpList_out2 rfl (.tmp 52) (.tmp 55) rfl B1 n hn1 v rfl pre HOD.out (by omega) wC.heap.size gb cp rfl HCD.out x HRD.out (by omega) (by omega) ?_; intro g' cap2 wF k1 k2)
            have hbF := hbD.trans k2
            have r15 := (hbF.block B15 (by omega)).trans q4
            have r12 := (hbF.block B12 (by omega)).trans ((q3.same B12 (by omega) (by simp; omega)).trans k12)
            have c15 := cell_of r15
            have f15 := free_of r15
            have HK1 : Hid (Own2 _ _ _ _ _) := k1
            clear k1 k2 hbD HOD HRD HCD
            refine any_pick (rs := [5]) (by kernel_rfl) (by simp) ?_
            intro i hi
            simp only [List.mem_cons, List.not_mem_nil, or_false] at hi
            subst hi
            refine ⟨_, rfl, ?_⟩
            go_wp2_with fail
            refine ⟨by kernel_rfl, ?_⟩
            have r15E := set_one (u := .slice (some ⟨g', 0, none⟩) (pre.length + 1) cap2) r15
            have r12E : (wF.setCell ⟨B15, 0, none⟩ (.slice (some ⟨g', 0, none⟩) (pre.length + 1) cap2)).heap[B12]? = _ := (Below.heap_setCell _ _ _ _ (by simp; omega)).trans r12
            have HOE : Hid (Own2 (wF.setCell ⟨B15, 0, none⟩ (.slice (some ⟨g', 0, none⟩) (pre.length + 1) cap2)) B1 n (.slice (some ⟨g', 0, none⟩) (pre.length + 1) cap2) (pre ++ [x])) := HK1.out.keep (fun k k1 k2 => Below.heap_setCell _ _ _ _ (by simp; omega))
            have HEs : Hid (∀ k, k < B1 → k ≠ B15 → (wF.setCell ⟨B15, 0, none⟩ (.slice (some ⟨g', 0, none⟩) (pre.length + 1) cap2)).heap[k]? = A.heap[k]?) := fun k e1 e2 => (Below.heap_setCell _ _ _ _ (by simpa using e2)).trans (hbF.block k e1)
            have HUE : Hid (Upd [B15] w6 (wF.setCell ⟨B15, 0, none⟩ (.slice (some ⟨g', 0, none⟩) (pre.length + 1) cap2))) := ⟨hbF.os.trans q3.os, hbF.tape.trans q3.tape, hbF.output.trans q3.output, by simp; have := hbF.size; omega, fun k e1 e2 => (HEs.out k (by omega) (by simpa using e2)).trans (q3.same k e1 e2)⟩
            have HSE : Hid (Same w6.heap.size B1 A (wF.setCell ⟨B15, 0, none⟩ (.slice (some ⟨g', 0, none⟩) (pre.length + 1) cap2))) := ⟨by simp; exact hbF.size, fun k e1 e2 => HEs.out k e2 (by omega)⟩
            have hsE : A.heap.size ≤ (wF.setCell ⟨B15, 0, none⟩ (.slice (some ⟨g', 0, none⟩) (pre.length + 1) cap2)).heap.size := HSE.out.1
            clear c15 f15 r15 r12 hbF HK1 HEs
            generalize wF.setCell ⟨B15, 0, none⟩ (.slice (some ⟨g', 0, none⟩) (pre.length + 1) cap2) = wE at *
            have c15 := cell_of r15E
            have c12 := cell_of r12E
            by_cases hk0 : kk = 0
            · have c0 : wE.cell? ⟨B12, 0, none⟩ = some (.int .i64 0) := by rw [hk0] at c12; exact c12
              clear c12
              gi_wp2
              exact ⟨HSE.out, q1, by omega, HUE.out, ⟨_, r15E, HOE.out⟩, .inl hk0⟩
            · have hkp : (0 : Int) < (kk : Int) := by omega
              by_cases hkl : pre.length + 1 = kk
              · have hkb : ((pre.length : Int) + 1 == (kk : Int)) = true := by rw [beq_iff_eq]; omega
                gi_wp2
                exact ⟨HSE.out, rfl, q1, by omega, HUE.out, ⟨_, r15E, HOE.out⟩, by simp; omega⟩
              · have hkb : ((pre.length : Int) + 1 == (kk : Int)) = false := by rw [beq_eq_false_iff_ne]; omega
                gi_wp2
                exact ⟨HSE.out, q1, by omega, HUE.out, ⟨_, r15E, HOE.out⟩, .inr (by simp; omega)⟩
          · refine ⟨_, rfl, ?_⟩
            go_wp2_with fail
            refine H8.out.mono ?_
            rintro e wC ⟨gb, cp, rfl, hgb, hgc, hbC⟩
            have d15 := (hbC.cell (p := ⟨B15, 0, none⟩) hB15A).trans c15
            have e15 : (wC.alloc (.cells #[.slice (some ⟨gb, 0, none⟩) n cp] 29)).cell? ⟨B15, 0, none⟩ = some v := (World.cell?_of_block (w := wC) (Below.heap_alloc _ _ _ (by have := hbC.size; show B15 < _; omega))).trans d15
            have HC : Hid (∀ _, _) := hgc
            clear hgc
            go_wp2_with fail
            refine any_pick (rs := [0, 3]) (by kernel_rfl) (by simp) ?_
            intro i hi
            simp only [List.mem_cons, List.not_mem_nil, or_false] at hi
            rcases hi with rfl | rfl
            · refine ⟨_, rfl, ?_⟩
              go_wp2_with fail
              refine any_pick (rs := [3]) (by kernel_rfl) (by simp) ?_
              intro i hi
              simp only [List.mem_cons, List.not_mem_nil, or_false] at hi
              subst hi
              refine ⟨_, rfl, ?_⟩
              go_wp2_with fail
              have hgl := World.block_lt_of_cell? wC _ (HC.out 0 (by omega))
              dsimp only at hgl
              have hsC := hbC.size
              have HOD : Hid (Own2 (wC.alloc (.cells #[.slice (some ⟨gb, 0, none⟩) n cp] 29)) B1 n v pre) := q5.keep (fun k k1 k2 => ((Below.heap_alloc _ _ _ (by omega)).trans (hbC.block k (by omega))).trans (hbd.block k k2))
              have HRD : Hid (∀ j, j < n → (wC.alloc (.cells #[.slice (some ⟨gb, 0, none⟩) n cp] 29)).cell? ⟨gb, j, none⟩ = some (.int .i64 (x.getD j 0))) := fun j hj => (World.cell?_of_block (w := wC) (Below.heap_alloc _ _ _ hgl)).trans (HC.out j hj)
              have hnw := heap_new wC (.cells #[.slice (some ⟨gb, 0, none⟩) n cp] 29)
              have HCD : Hid (_ = _) := cell_of hnw
              have hbD : Below B1 A (wC.alloc (.cells #[.slice (some ⟨gb, 0, none⟩) n cp] 29)) := ((hbd.mono (by omega)).trans (hbC.mono (by omega))).alloc (by omega) _
              have hsD : (wC.alloc (.cells #[.slice (some ⟨gb, 0, none⟩) n cp] 29)).heap.size = wC.heap.size + 1 := by simp
              clear hnw e15 d15 c15 f15 H8
              generalize wC.alloc (.cells #[.slice (some ⟨gb, 0, none⟩) n cp] 29) = wD at *
              refine any_pick (rs := [4]) (by kernel_rfl) (by simp) ?_
              intro i hi
              simp only [List.mem_cons, List.not_mem_nil, or_false] at hi
              subst hi
              refine ⟨_, rfl, ?_⟩
              go_wp2_with (refine wpList_out2 rfl (.tmp 52) (.tmp 55) rfl B1 n hn1 v rfl pre HOD.out (by omega) wC.heap.size gb cp rfl HCD.out x HRD.out (by omega) (by omega) ?_; intro g' cap2 wF k1 k2)
              have hbF := hbD.trans k2
              have r15 := (hbF.block B15 (by omega)).trans q4
              have r12 := (hbF.block B12 (by omega)).trans ((q3.same B12 (by omega) (by simp; omega)).trans k12)
              have c15 := cell_of r15
              have f15 := free_of r15
              have HK1 : Hid (Own2 _ _ _ _ _) := k1
              clear k1 k2 hbD HOD HRD HCD
              refine any_pick (rs := [5]) (by kernel_rfl) (by simp) ?_
              intro i hi
              simp only [List.mem_cons, List.not_mem_nil, or_false] at hi
              subst hi
              refine ⟨_, rfl, ?_⟩
              go_wp2_with fail
              refine ⟨by kernel_rfl, ?_⟩
              have r15E := set_one (u := .slice (some ⟨g', 0, none⟩) (pre.length + 1) cap2) r15
              have r12E : (wF.setCell ⟨B15, 0, none⟩ (.slice (some ⟨g', 0, none⟩) (pre.length + 1) cap2)).heap[B12]? = _ := (Below.heap_setCell _ _ _ _ (by simp; omega)).trans r12
              have HOE : Hid (Own2 (wF.setCell ⟨B15, 0, none⟩ (.slice (some ⟨g', 0, none⟩) (pre.length + 1) cap2)) B1 n (.slice (some ⟨g', 0, none⟩) (pre.length + 1) cap2) (pre ++ [x])) := HK1.out.keep (fun k k1 k2 => Below.heap_setCell _ _ _ _ (by simp; omega))
              have HEs : Hid (∀ k, k < B1 → k ≠ B15 → (wF.setCell ⟨B15, 0, none⟩ (.slice (some ⟨g', 0, none⟩) (pre.length + 1) cap2)).heap[k]? = A.heap[k]?) := fun k e1 e2 => (Below.heap_setCell _ _ _ _ (by simpa using e2)).trans (hbF.block k e1)
              have HUE : Hid (Upd [B15] w6 (wF.setCell ⟨B15, 0, none⟩ (.slice (some ⟨g', 0, none⟩) (pre.length + 1) cap2))) := ⟨hbF.os.trans q3.os, hbF.tape.trans q3.tape, hbF.output.trans q3.output, by simp; have := hbF.size; omega, fun k e1 e2 => (HEs.out k (by omega) (by simpa using e2)).trans (q3.same k e1 e2)⟩
              have HSE : Hid (Same w6.heap.size B1 A (wF.setCell ⟨B15, 0, none⟩ (.slice (some ⟨g', 0, none⟩) (pre.length + 1) cap2))) := ⟨by simp; exact hbF.size, fun k e1 e2 => HEs.out k e2 (by omega)⟩
              have hsE : A.heap.size ≤ (wF.setCell ⟨B15, 0, none⟩ (.slice (some ⟨g', 0, none⟩) (pre.length + 1) cap2)).heap.size := HSE.out.1
              clear c15 f15 r15 r12 hbF HK1 HEs
              generalize wF.setCell ⟨B15, 0, none⟩ (.slice (some ⟨g', 0, none⟩) (pre.length + 1) cap2) = wE at *
              have c15 := cell_of r15E
              have c12 := cell_of r12E
              by_cases hk0 : kk = 0
              · have c0 : wE.cell? ⟨B12, 0, none⟩ = some (.int .i64 0) := by rw [hk0] at c12; exact c12
                clear c12
                gi_wp2
                exact ⟨HSE.out, q1, by omega, HUE.out, ⟨_, r15E, HOE.out⟩, .inl hk0⟩
              · have hkp : (0 : Int) < (kk : Int) := by omega
                by_cases hkl : pre.length + 1 = kk
                · have hkb : ((pre.length : Int) + 1 == (kk : Int)) = true := by rw [beq_iff_eq]; omega
                  gi_wp2
                  exact ⟨HSE.out, rfl, q1, by omega, HUE.out, ⟨_, r15E, HOE.out⟩, by simp; omega⟩
                · have hkb : ((pre.length : Int) + 1 == (kk : Int)) = false := by rw [beq_eq_false_iff_ne]; omega
                  gi_wp2
                  exact ⟨HSE.out, q1, by omega, HUE.out, ⟨_, r15E, HOE.out⟩, .inr (by simp; omega)⟩
            · refine ⟨_, rfl, ?_⟩
              go_wp2_with fail
              refine any_pick (rs := [0]) (by kernel_rfl) (by simp) ?_
              intro i hi
              simp only [List.mem_cons, List.not_mem_nil, or_false] at hi
              subst hi
              refine ⟨_, rfl, ?_⟩
              go_wp2_with fail
              have hgl := World.block_lt_of_cell? wC _ (HC.out 0 (by omega))
              dsimp only at hgl
              have hsC := hbC.size
              have HOD : Hid (Own2 (wC.alloc (.cells #[.slice (some ⟨gb, 0, none⟩) n cp] 29)) B1 n v pre) := q5.keep (fun k k1 k2 => ((Below.heap_alloc _ _ _ (by omega)).trans (hbC.block k (by omega))).trans (hbd.block k k2))
              have HRD : Hid (∀ j, j < n → (wC.alloc (.cells #[.slice (some ⟨gb, 0, none⟩) n cp] 29)).cell? ⟨gb, j, none⟩ = some (.int .i64 (x.getD j 0))) := fun j hj => (World.cell?_of_block (w := wC) (Below.heap_alloc _ _ _ hgl)).trans (HC.out j hj)
              have hnw := heap_new wC (.cells #[.slice (some ⟨gb, 0, none⟩) n cp] 29)
              have HCD : Hid (_ = _) := cell_of hnw
              have hbD : Below B1 A (wC.alloc (.cells #[.slice (some ⟨gb, 0, none⟩) n cp] 29)) := ((hbd.mono (by omega)).trans (hbC.mono (by omega))).alloc (by omega) _
              have hsD : (wC.alloc (.cells #[.slice (some ⟨gb, 0, none⟩) n cp] 29)).heap.size = wC.heap.size + 1 := by simp
              clear hnw e15 d15 c15 f15 H8
              generalize wC.alloc (.cells #[.slice (some ⟨gb, 0, none⟩) n cp] 29) = wD at *
              refine any_pick (rs := [4]) (by kernel_rfl) (by simp) ?_
              intro i hi
              simp only [List.mem_cons, List.not_mem_nil, or_false] at hi
              subst hi
              refine ⟨_, rfl, ?_⟩
              go_wp2_with (refine wpList_out2 rfl (.tmp 52) (.tmp 55) rfl B1 n hn1 v rfl pre HOD.out (by omega) wC.heap.size gb cp rfl HCD.out x HRD.out (by omega) (by omega) ?_; intro g' cap2 wF k1 k2)
              have hbF := hbD.trans k2
              have r15 := (hbF.block B15 (by omega)).trans q4
              have r12 := (hbF.block B12 (by omega)).trans ((q3.same B12 (by omega) (by simp; omega)).trans k12)
              have c15 := cell_of r15
              have f15 := free_of r15
              have HK1 : Hid (Own2 _ _ _ _ _) := k1
              clear k1 k2 hbD HOD HRD HCD
              refine any_pick (rs := [5]) (by kernel_rfl) (by simp) ?_
              intro i hi
              simp only [List.mem_cons, List.not_mem_nil, or_false] at hi
              subst hi
              refine ⟨_, rfl, ?_⟩
              go_wp2_with fail
              refine ⟨by kernel_rfl, ?_⟩
              have r15E := set_one (u := .slice (some ⟨g', 0, none⟩) (pre.length + 1) cap2) r15
              have r12E : (wF.setCell ⟨B15, 0, none⟩ (.slice (some ⟨g', 0, none⟩) (pre.length + 1) cap2)).heap[B12]? = _ := (Below.heap_setCell _ _ _ _ (by simp; omega)).trans r12
              have HOE : Hid (Own2 (wF.setCell ⟨B15, 0, none⟩ (.slice (some ⟨g', 0, none⟩) (pre.length + 1) cap2)) B1 n (.slice (some ⟨g', 0, none⟩) (pre.length + 1) cap2) (pre ++ [x])) := HK1.out.keep (fun k k1 k2 => Below.heap_setCell _ _ _ _ (by simp; omega))
              have HEs : Hid (∀ k, k < B1 → k ≠ B15 → (wF.setCell ⟨B15, 0, none⟩ (.slice (some ⟨g', 0, none⟩) (pre.length + 1) cap2)).heap[k]? = A.heap[k]?) := fun k e1 e2 => (Below.heap_setCell _ _ _ _ (by simpa using e2)).trans (hbF.block k e1)
              have HUE : Hid (Upd [B15] w6 (wF.setCell ⟨B15, 0, none⟩ (.slice (some ⟨g', 0, none⟩) (pre.length + 1) cap2))) := ⟨hbF.os.trans q3.os, hbF.tape.trans q3.tape, hbF.output.trans q3.output, by simp; have := hbF.size; omega, fun k e1 e2 => (HEs.out k (by omega) (by simpa using e2)).trans (q3.same k e1 e2)⟩
              have HSE : Hid (Same w6.heap.size B1 A (wF.setCell ⟨B15, 0, none⟩ (.slice (some ⟨g', 0, none⟩) (pre.length + 1) cap2))) := ⟨by simp; exact hbF.size, fun k e1 e2 => HEs.out k e2 (by omega)⟩
              have hsE : A.heap.size ≤ (wF.setCell ⟨B15, 0, none⟩ (.slice (some ⟨g', 0, none⟩) (pre.length + 1) cap2)).heap.size := HSE.out.1
              clear c15 f15 r15 r12 hbF HK1 HEs
              generalize wF.setCell ⟨B15, 0, none⟩ (.slice (some ⟨g', 0, none⟩) (pre.length + 1) cap2) = wE at *
              have c15 := cell_of r15E
              have c12 := cell_of r12E
              by_cases hk0 : kk = 0
              · have c0 : wE.cell? ⟨B12, 0, none⟩ = some (.int .i64 0) := by rw [hk0] at c12; exact c12
                clear c12
                gi_wp2
                exact ⟨HSE.out, q1, by omega, HUE.out, ⟨_, r15E, HOE.out⟩, .inl hk0⟩
              · have hkp : (0 : Int) < (kk : Int) := by omega
                by_cases hkl : pre.length + 1 = kk
                · have hkb : ((pre.length : Int) + 1 == (kk : Int)) = true := by rw [beq_iff_eq]; omega
                  gi_wp2
                  exact ⟨HSE.out, rfl, q1, by omega, HUE.out, ⟨_, r15E, HOE.out⟩, by simp; omega⟩
                · have hkb : ((pre.length : Int) + 1 == (kk : Int)) = false := by rw [beq_eq_false_iff_ne]; omega
                  gi_wp2
                  exact ⟨HSE.out, q1, by omega, HUE.out, ⟨_, r15E, HOE.out⟩, .inr (by simp; omega)⟩
end Go.Proofs.YbulkbhcsDoor
