import Derived.Test.YbulkbhcsDoorSer1
import Derived.Test.YbulkbhcsDoorBuild
namespace Go.Proofs.YbulkbhcsDoor
open Go.RowKit Go.Shelf
attribute [local go_sem] Oper.semAt_some

/-- The first order is the greedy one. -/
theorem vis_head {g : List (List Nat)} : ∀ (m : Nat) (p : List Nat), (greedy g m p).length = p.length + m → ∃ tl, vis (T g m p) = ints (greedy g m p) :: tl
  | 0, p, _ => ⟨[], rfl⟩
  | m + 1, p, h => by
    unfold greedy at h ⊢
    split at h
    · omega
    · rename_i v l e
      obtain ⟨tl, ht⟩ := vis_head m (p ++ [v]) (by rw [h]; simp; omega)
      simp only [T, e, List.flatMap_cons, List.cons_append, List.append_assoc]
      refine ⟨tl ++ vis (l.flatMap (fun v => none :: T g m (p ++ [v])) ++ [none]), ?_⟩
      have hn : ∀ R, vis (none :: R) = vis R := fun R => rfl
      rw [hn, vis_app, ht]; rfl
theorem orders_head {g : List (List Nat)} {n : Nat} {x : List Int} (h : [x] <+: ordersOf g n) : (greedy g n []).length = n ∧ x = ints (greedy g n []) := by
  unfold ordersOf at h
  split at h
  · rename_i hl
    obtain ⟨tl, ht⟩ := vis_head (g := g) n [] (by simpa using hl)
    unfold ext at h
    rw [ht] at h
    obtain ⟨q, hq⟩ := h
    simp at hq
    exact ⟨hl, hq.1⟩
  · obtain ⟨q, hq⟩ := h
    cases hq
theorem orders_none {g : List (List Nat)} {n : Nat} (h : ordersOf g n = []) : ¬ (greedy g n []).length = n := by
  intro hl
  obtain ⟨tl, ht⟩ := vis_head (g := g) n [] (by simpa using hl)
  unfold ordersOf at h
  rw [if_pos hl] at h
  unfold ext at h
  rw [ht] at h
  cases h
theorem Keep.below {lo hi : Nat} {a b : World} (h : Keep lo hi a b) (hs : lo ≤ a.heap.size) : Below lo a b := ⟨h.os, h.tape, h.output, h.size, fun k hk => h.same k (by omega) (by omega)⟩

set_option maxHeartbeats 1000000 in
set_option maxRecDepth 100000 in
theorem first_law (w : World) (a0 a1 a2 : Int) (a3 : Option Addr) (len cap : Nat) (h0 : 0 ≤ a0) (hm : len ≤ maxLen)
    (hd : len = 0 ∨ ∃ b off, a3 = some ⟨b, off, none⟩ ∧ ∀ i, i < len → ∃ x, w.cell? ⟨b, off + i, none⟩ = some (.int .u8 x)) (hdeb : Deb w) :
    Calls Ybad.prog 4 #[.int .u8 a0, .int .u32 a1, .int .i16 a2, .slice a3 len cap] w fun e w' => e = .returned (.bool true) ∧ Below w.heap.size w w' := by
  obtain ⟨r, hr, hr6⟩ : ∃ r : Nat, Int.tmod a0 6 = (r : Int) ∧ r < 6 := ⟨(Int.tmod a0 6).toNat, by rw [Int.tmod_eq_emod_of_nonneg h0]; omega, by rw [Int.tmod_eq_emod_of_nonneg h0]; omega⟩
  obtain ⟨n, hn⟩ : ∃ n, r + 1 = n := ⟨_, rfl⟩
  have hq1 : (1 : Int) + (r : Int) = (n : Int) := by omega
  have H5 : Hid (Calls Ybad.prog 5 _ _ _) := build_ok w n (by omega) (by omega) a1 a2 a3 len cap hm hd
  clear hd hm
  have hw0 : 0 < w.heap.size := World.block_lt_of_cell? w _ (hdeb 0 (by omega))
  have HDB : Hid (Deb w) := hdeb
  clear hdeb
  refine (callsIn_wide (n := 9)).1 (callsIn_of_wp_marks Ybad.func4 rfl trivial ?_ rfl)
  simp only [Ybad.ntmps4, List.size_toArray, List.length_cons, List.length_nil, Nat.reduceAdd, Nat.reduceSub, Array.replicate_succ, Array.replicate_zero, List.push_toArray, List.append_toArray, List.nil_append, List.cons_append]
  refine wpIn_wide.2 ?_
  go_upto_region 3 with (go_at_call 5; refine H5.out.mono ?_; rintro e w1 ⟨bG, bt, bg, zs, g, rfl, hg, hb1⟩)
  go_upto_region 5 with fail
  obtain ⟨k11, k12, hb2, s2⟩ := two2 w1 (.cells #[.slice none 0 0] 29) (.cells #[.bool false] 4)
  obtain ⟨B, hB⟩ : ∃ b, w1.heap.size = b := ⟨_, rfl⟩
  rw [hB] at k11 k12 hb2 s2 hg
  simp only [hB]
  have hg2 := hg.below hb2
  have hb12 := hb1.trans (hb2.mono (by have := hb1.size; omega))
  generalize (w1.alloc (.cells #[.slice none 0 0] 29)).alloc (.cells #[.bool false] 4) = w2 at *
  have H7 : Hid (Calls Ybad.prog 7 _ _ _) := serials_ok w2 bG
  go_wp2_with (go_at_call 7; refine H7.out.mono ?_; rintro e w3 ⟨rfl, rfl⟩)
  obtain ⟨k25, hb3, s3⟩ := one1 w2 (.cells #[.pointer (some ⟨bG, 0, none⟩)] 25)
  rw [s2] at k25 s3
  have hb13 := hb12.trans (hb3.mono (by have := hb12.size; omega))
  replace k11 := blk hb3 k11
  replace k12 := blk hb3 k12
  have hg3 := hg2.below (hb3.mono (by omega))
  generalize w2.alloc (.cells #[.pointer (some ⟨bG, 0, none⟩)] 25) = w4 at *
  have hwB : w.heap.size ≤ B := by have := hb1.size; omega
  have HG : Hid (GG _ _ _ _ _ _ _ _ _ _) := hg3
  have hn6 : n ≤ 6 := by omega
  have hn1 : 1 ≤ n := by omega
  clear hg hg2 hg3 H7 hb1 hb2 hb3 hb12 H5
  refine wp_range (gf := 13) (lb := #[.pointer (some ⟨B + 2, 0, none⟩)]) rfl (enters_of Ybad.func13 (by kernel_rfl) rfl) rfl (n := n) (xs := (ordersOf g n).map (txI zs)) (G := fun A => GG B A bG bt bg n n n zs g ∧ Deb A ∧ A.cell? ⟨B + 2, 0, none⟩ = some (.pointer (some ⟨bG, 0, none⟩))) ?seq
    (fun B1 pre A => pre = [] ∧ w4.heap.size ≤ B1 ∧ w4.heap.size ≤ A.heap.size ∧ Below w4.heap.size w4 A)
    (fun c B1 pre A => c = .exit 0 ∧ ∃ x, pre = [x] ∧ w4.heap.size ≤ B1 ∧ w4.heap.size ≤ A.heap.size ∧ Below B w4 A ∧ A.heap[B + 1]? = some (.cells #[.bool true] 4 (0, 0)) ∧ ∃ gb cp, B1 ≤ gb ∧ gb < A.heap.size ∧ A.heap[B]? = some (.cells #[.slice (some ⟨gb, 0, none⟩) n cp] 29 (0, 0)) ∧ ∀ i, i < n → A.cell? ⟨gb, i, none⟩ = some (.int .i64 (x.getD i 0)))
    ?sI ?sIx ?gI ?start (fun v => ⟨(List.toArray ((.int .u8 a0) :: (.int .u32 a1) :: (.int .i16 a2) :: (.slice a3 len cap) :: undef :: undef :: undef :: undef :: (.bool false) :: (.int .i64 (n : Int)) :: (.pointer (some ⟨bG, 0, none⟩)) :: (.pointer (some ⟨B, 0, none⟩)) :: (.pointer (some ⟨B + 1, 0, none⟩)) :: v :: undef :: undef :: (.int .u8 a0) :: (.int .u8 (r : Int)) :: (.int .i64 (r : Int)) :: (.int .i64 (n : Int)) :: (.int .i64 (n : Int)) :: (.int .u32 a1) :: (.int .i16 a2) :: (.slice a3 len cap) :: (.pointer (some ⟨bG, 0, none⟩)) :: (.pointer (some ⟨bG, 0, none⟩)) :: (.func (.func 13) #[] #[.pointer (some ⟨B + 2, 0, none⟩)]) :: v :: undef :: undef :: undef :: undef :: undef :: undef :: undef :: undef :: undef :: undef :: undef :: undef :: undef :: undef :: undef :: undef :: undef :: [])), []⟩) ?assign ?body ?done ?stop
  case seq =>
    intro W' hb l' J' Jx' h1 h2 h3 h4 h5
    exact serials1_ok W' B (B + 2) bG bt bg n n n l' zs g (by have := hb.size; omega) (HG.out.below (hb.mono (by omega))) (HDB.out.of_block ((hb.block 0 (by omega)).trans (hb13.block 0 hw0))) (cell_of (blk hb k25)) J' Jx' h2 ⟨h1, h3, h4, h5⟩
  case sI =>
    rintro B1 pre A A' ⟨h1, h2, h3, h4⟩ hk
    exact ⟨h1, h2, Nat.le_trans h3 hk.size, h4.trans (hk.below h3)⟩
  case sIx =>
    rintro c B1 pre A A' ⟨h1, x, h2, h3, h4, h5, h6, gb, cp, h7, h8, h9, h10⟩ hk
    have hbe := hk.below h4
    refine ⟨h1, x, h2, h3, Nat.le_trans h4 hk.size, h5.trans (hbe.mono (by omega)), (hbe.block _ (by omega)).trans h6, gb, cp, h7, Nat.lt_of_lt_of_le h8 hk.size, (hbe.block _ (by omega)).trans h9, fun i hi => ?_⟩
    exact (World.cell?_of_block (w := A) (hk.same gb h8 (by omega))).trans (h10 i hi)
  case gI =>
    rintro B1 pre A ⟨h1, h2, h3, h4⟩
    exact ⟨HG.out.below (h4.mono (by omega)), HDB.out.of_block ((h4.block 0 (by omega)).trans (hb13.block 0 hw0)), cell_of (blk h4 k25)⟩
  case start =>
    intro B1 A h1 h2 hb
    exact ⟨rfl, h1, hb.size, hb⟩
  case assign =>
    intro l' m v A K hK
    gi_wp2
    exact hK
  case body =>
    rintro l' m B1 pre x bo cap' A h1 h2 h3 hp hx ⟨rfl, i2, i3, i4⟩ hcl2
    have q11 := blk i4 k11
    have q12 := blk i4 k12
    have c11 := cell_of q11
    have f11 := free_of q11
    have H8 : Hid (Calls Ybad.prog 8 _ _ _) := clone_ok A bo n cap' x hx hn1 hn6 (fun i hi => hcl2 i (by omega))
    gi_wp2
    refine ⟨trivial, fun q => (by cases q), (CallsIn.inRound l' (callsIn_wide.2 H8.out)).mono ?_⟩
    rintro e w5 ⟨gb, cp, rfl, hgb, hgc, hb5⟩
    have r11 := blk hb5 q11
    have r12 := blk hb5 q12
    have d11 := cell_of r11
    have e11 := free_of r11
    have hgl := World.block_lt_of_cell? w5 _ (hgc 0 (by omega))
    dsimp only at hgl
    have t12 : (w5.setCell ⟨B, 0, none⟩ (.slice (some ⟨gb, 0, none⟩) n cp)).heap[B + 1]? = some (.cells #[.bool false] 4 (0, 0)) := (Below.heap_setCell _ _ _ _ (by simp)).trans r12
    have d12 := cell_of t12
    have e12 := free_of t12
    have HC : Hid (∀ _, _) := hgc
    clear hgc c11 f11 H8
    gi_wp2
    have hs5 := hb5.size
    have hgB : ∀ (u : World), u = (w5.setCell ⟨B, 0, none⟩ (.slice (some ⟨gb, 0, none⟩) n cp)).setCell ⟨B + 1, 0, none⟩ (.bool true) → ∀ k, k ≠ B → k ≠ B + 1 → u.heap[k]? = w5.heap[k]? := fun u hu k k1 k2 => by
      rw [hu]; exact (Below.heap_setCell _ _ _ _ (by simpa using k2)).trans (Below.heap_setCell _ _ _ _ (by simpa using k1))
    refine ⟨⟨by simp; omega, fun k k1 k2 => (hgB _ rfl k (by omega) (by omega)).trans (hb5.block k (by omega))⟩, rfl, x, rfl, i2, by simp; omega, ?_, set_one t12, gb, cp, by omega, by simpa using hgl, ?_, fun i hi => ?_⟩
    · have hbB : Below B w4 w5 := (i4.mono (by omega)).trans (hb5.mono (by omega))
      exact hbB.setCell (p := ⟨B, 0, none⟩) (Nat.le_refl _) _ |>.setCell (p := ⟨B + 1, 0, none⟩) (by show B ≤ B + 1; omega) _
    · exact (Below.heap_setCell _ _ _ _ (by simp)).trans (set_one r11)
    · exact (World.cell?_of_block (w := w5) (hgB _ rfl gb (by omega) (by omega))).trans (HC.out i hi)
  case done =>
    rintro D B1 A hD hD2 ⟨h1, h2, h3, h4⟩ hK
    have ho : ordersOf g n = [] := by simpa using h1
    have hng := orders_none ho
    have hlen : (greedy g n []).length ≤ n := by
      have := (Topo.pre (g := g) n [] (fun a x b e => by cases a <;> cases e) (Pre.nil g)).2.len
      rw [HG.out.gn] at this
      exact this
    have hgA := HG.out.below (h4.mono (by omega))
    have hso := serial_ok A B bG bt bg n n n zs g (by omega) hgA
    have H10 : Hid (Calls Ybad.prog 10 #[.pointer (some ⟨bG, 0, none⟩)] A fun e w' => e = .returned (.tuple #[.slice none 0 0, .bool false]) ∧ Below A.heap.size A w') := hso.mono fun e w' ⟨q1, q2⟩ => by
      rcases q2 with ⟨_, q2⟩ | ⟨q2, _⟩
      · exact ⟨q2, q1⟩
      · exact absurd q2 hng
    have q12 := blk h4 k12
    have hDl := lt_of_block hK
    have HBA : Hid (Below w.heap.size w A) := hb13.trans (h4.mono (by omega))
    clear hso h1 ho hng
    go_wp2_with (go_at_call 10; refine H10.out.mono ?_; rintro e w5 ⟨rfl, hb5⟩; have c12 := cell_of (blk hb5 q12))
    refine ⟨by simp, .inl ⟨_, _, rfl, run_takeDeferred (blk hb5 hK), ?_⟩⟩
    refine ⟨_, results_tmp rfl _ _ _, rfl, ?_⟩
    have hbe := HBA.out.trans (hb5.mono HBA.out.size)
    exact hbe.trans (Keep.below (lo := w.heap.size) (hi := D + 1) (Keep.put w5 (by omega) _) hbe.size)
  case stop =>
    rintro D B1 c pre A hD hD2 hp hne ⟨rfl, x, rfl, h3, h4, h5, h6, gb, cp, h7, h8, h9, h10⟩ hK
    obtain ⟨y, hy, hx⟩ : ∃ y, [y] <+: ordersOf g n ∧ x = txI zs y := by
      obtain ⟨tl, ht⟩ := hp
      cases ho : ordersOf g n with
      | nil => rw [ho] at ht; cases ht
      | cons y l =>
        rw [ho] at ht
        simp at ht
        exact ⟨y, ⟨l, rfl⟩, ht.1⟩
    obtain ⟨hgl, rfl⟩ := orders_head hy
    have htx : txI zs (ints (greedy g n [])) = txs zs (greedy g n []) := by simp [txI, ints, txs]
    rw [htx] at hx
    subst hx
    have hgA := HG.out.below h5
    have hso := serial_ok A B bG bt bg n n n zs g (by omega) hgA
    have H10 : Hid (Calls Ybad.prog 10 #[.pointer (some ⟨bG, 0, none⟩)] A fun e w' => Below A.heap.size A w' ∧ ∃ b, e = .returned (.tuple #[.slice (some ⟨b, 0, none⟩) n n, .bool true]) ∧ Row w' b 3 .i64 (txs zs (greedy g n []))) := hso.mono fun e w' ⟨q1, q2⟩ => by
      rcases q2 with ⟨q2, _⟩ | ⟨_, b, _, q3, q4⟩
      · omega
      · exact ⟨q1, b, q3, q4⟩
    have hDl := lt_of_block hK
    have HBA : Hid (Below w.heap.size w A) := hb13.trans (h5.mono (by omega))
    have HC : Hid (∀ _, _) := h10
    have hlt : (txs zs (greedy g n [])).length = n := by rw [txs_len, hgl]
    generalize txs zs (greedy g n []) = ts at *
    clear hso h10 htx
    go_wp2_with (first
      | (go_at_call 10; refine H10.out.mono ?_; rintro e w5 ⟨hb5, b, rfl, hr5⟩; have c12 := cell_of (blk hb5 h6); have c11 := cell_of (blk hb5 h9))
      | (go_at_call 11; refine (equal_ok w5 gb b n cp n ts hn6 (fun i hi => (hb5.cell (p := ⟨gb, i, none⟩) h8).trans (HC.out i hi)) (fun i hi => hr5.cell (by omega))).mono ?_; rintro e w6 ⟨rfl, hb6⟩))
    refine ⟨by simp, .inl ⟨_, _, rfl, run_takeDeferred (blk hb6 (blk hb5 hK)), ?_⟩⟩
    refine ⟨_, results_tmp rfl _ _ _, rfl, ?_⟩
    have hbe := HBA.out.trans (hb5.mono HBA.out.size)
    have hbf := hbe.trans (hb6.mono hbe.size)
    exact hbf.trans (Keep.below (lo := w.heap.size) (hi := D + 1) (Keep.put w6 (by omega) _) hbf.size)
end Go.Proofs.YbulkbhcsDoor
