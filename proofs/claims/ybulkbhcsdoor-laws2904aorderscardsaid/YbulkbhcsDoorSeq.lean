import Derived.Test.YbulkbhcsDoorWalk
namespace Go.Proofs.YbulkbhcsDoor
open Go.RowKit

theorem Stable.mono {a b : Nat} {J : Nat → List (List Int) → World → Prop} (h : Stable a J) (hab : a ≤ b) : Stable b J := fun B1 pre A B hj hk => h B1 pre A B hj (hk.mono hab (Nat.le_refl _))
theorem Rounds.mono {l a b n : Nat} {xs : List (List Int)} {J Jx : Nat → List (List Int) → World → Prop} (h : Rounds l a n xs J Jx) (hab : a ≤ b) : Rounds l b n xs J Jx := by
  intro m B1 pre x bo cap A h1 h2 h3 h4 h5 h6 h7
  obtain ⟨fn, tmps, assign, body, hy, hR⟩ := h m B1 pre x bo cap A (by omega) h2 h3 h4 h5 h6 h7
  exact ⟨fn, tmps, assign, body, hy, hR.mono fun e w' hq => ⟨hq.1.mono hab (Nat.le_refl _), hq.2⟩⟩

/-- What is asked of the caller of a walk at W. -/
structure Asks (W : World) (l n : Nat) (xs : List (List Int)) (G : World → Prop) (J Jx : Nat → List (List Int) → World → Prop) : Prop where
  st : Stable W.heap.size J
  g : ∀ B1 pre A, J B1 pre A → G A
  start : ∀ B1 A, W.heap.size ≤ B1 → B1 ≤ A.heap.size → Below W.heap.size W A → J B1 [] A
  rounds : Rounds l W.heap.size n xs J Jx
theorem Asks.on {W W' : World} {l n : Nat} {xs : List (List Int)} {G : World → Prop} {J Jx : Nat → List (List Int) → World → Prop} (h : Asks W l n xs G J Jx) (hb : Below W.heap.size W W') : Asks W' l n xs G J Jx :=
  ⟨h.st.mono hb.size, h.g, fun B1 A h1 h2 h3 => h.start B1 A (Nat.le_trans hb.size h1) h2 (hb.trans (h3.mono hb.size)), h.rounds.mono hb.size⟩

set_option maxHeartbeats 1000000 in
set_option maxRecDepth 100000 in
theorem walk18_ok (W : World) (B bg cg n l : Nat) (g : List (List Nat)) (ho : Ok g) (hn : g.length = n) (h1 : 1 ≤ n) (hB : B ≤ W.heap.size) (hgr : Gr B W bg g) (hdb : Deb W) (hfull : (greedy g n []).length = n)
    (J Jx : Nat → List (List Int) → World → Prop) (ha : Asks W l n (ext g n) (fun A => Gr B A bg g ∧ Deb A) J Jx) :
    Calls Ybad.prog 18 #[.slice (some ⟨bg, 0, none⟩) n cg, wkV l] W fun e W' => (∃ v, e = .returned v) ∧ ∃ B1, W.heap.size ≤ B1 ∧ (J B1 (ext g n) W' ∨ ∃ pre, pre <+: ext g n ∧ pre ≠ [] ∧ Jx B1 pre W') := by
  have h0 : 0 < W.heap.size := World.block_lt_of_cell? W _ (hdb 0 (by omega))
  have hb : Below W.heap.size W (W.alloc (.cells #[.nilFunc, .nilFunc, .func (.yield l) #[] #[], .nilFunc, .int .i64 0, .int .i64 0, .nilFunc] 58)) := (Below.refl _ _).alloc (Nat.le_refl _) _
  have ha' := ha.on hb
  have H22 : Hid (Calls Ybad.prog 22 _ _ _) := walk_ok _ B bg cg n l g ho hn h1 (Nat.le_trans hB hb.size) (hgr.below (hb.mono hB)) (hdb.of_block (hb.block 0 h0)) hfull J Jx ha'.st ha'.g ha'.start ha'.rounds
  have HS : Hid (_ ≤ _) := hb.size
  clear ha ha' hb hdb hgr
  unfold wkV at *
  go_enter Ybad.func18, Ybad.ntmps18
  go_wp2_with (go_at_call 22; refine H22.out.mono ?_; rintro e w1 ⟨⟨x, y, rfl⟩, B1, q1, q2⟩)
  refine bodyPost_ret (results_tmp2 rfl _ _ _) rfl ?_
  exact ⟨⟨_, rfl⟩, B1, Nat.le_trans HS.out q1, q2⟩

/-- What the iterator over the nodes hands out. -/
def ordersOf (g : List (List Nat)) (n : Nat) : List (List Int) := if (greedy g n []).length = n then ext g n else []

theorem T_mem {g : List (List Nat)} : ∀ (m : Nat) (p : List Nat), Topo g p → Pre g p → ∀ q, some q ∈ T g m p → Topo g q ∧ Pre g q ∧ q.length = p.length + m
  | 0, p, h, k, q, hq => by
    simp [T] at hq
    subst hq
    exact ⟨h, k, rfl⟩
  | m + 1, p, h, k, q, hq => by
    simp only [T, List.mem_append, List.mem_flatMap, List.mem_singleton] at hq
    rcases hq with ⟨v, hv, hq⟩ | hq
    · have hvF := mem_frees.1 hv
      rcases List.mem_cons.1 hq with hq | hq
      · cases hq
      · obtain ⟨h1, h2, h3⟩ := T_mem m (p ++ [v]) (h.snoc hvF) (k.place hvF) q hq
        exact ⟨h1, h2, by rw [h3]; simp; omega⟩
    · cases hq
theorem ext_mem {g : List (List Nat)} {n : Nat} {x : List Int} (h : x ∈ ext g n) : ∃ p, x = ints p ∧ Topo g p ∧ Pre g p ∧ p.length = n := by
  unfold ext vis at h
  rw [List.mem_filterMap] at h
  obtain ⟨o, ho, he⟩ := h
  cases o with
  | none => cases he
  | some p =>
    obtain ⟨h1, h2, h3⟩ := T_mem n [] (fun a x b e => by cases a <;> cases e) (Pre.nil g) p ho
    simp at he
    exact ⟨p, he.symm, h1, h2, by simpa using h3⟩
theorem orders_mem {g : List (List Nat)} {n : Nat} {x : List Int} (h : x ∈ ordersOf g n) : ∃ p, x = ints p ∧ Topo g p ∧ Pre g p ∧ p.length = n := by
  unfold ordersOf at h
  split at h
  · exact ext_mem h
  · cases h

set_option maxHeartbeats 1000000 in
set_option maxRecDepth 100000 in
theorem orders1_ok (W : World) (B Bc bg cg n l : Nat) (g : List (List Nat)) (ho : Ok g) (hn : g.length = n) (h1 : 1 ≤ n) (hB : B ≤ W.heap.size) (hgr : Gr B W bg g) (hdb : Deb W)
    (hc : W.cell? ⟨Bc, 0, none⟩ = some (.slice (some ⟨bg, 0, none⟩) n cg))
    (J Jx : Nat → List (List Int) → World → Prop) (ha : Asks W l n (ordersOf g n) (fun A => Gr B A bg g ∧ Deb A) J Jx) :
    Calls Ybad.prog 17 #[.func (.yield l) #[] #[], .pointer (some ⟨Bc, 0, none⟩)] W fun e W' => (∃ v, e = .returned v) ∧ ∃ B1, W.heap.size ≤ B1 ∧ (J B1 (ordersOf g n) W' ∨ ∃ pre, pre <+: ordersOf g n ∧ pre ≠ [] ∧ Jx B1 pre W') := by
  have h0 : 0 < W.heap.size := World.block_lt_of_cell? W _ (hdb 0 (by omega))
  have hcl : Bc < W.heap.size := World.block_lt_of_cell? W _ hc
  have hor := order_ok W B bg cg g ho hB hgr
  rw [hn] at hor
  by_cases hl : (greedy g n []).length = n
  · have HX : Hid (ordersOf g n = ext g n) := if_pos hl
    rw [HX.out] at ha ⊢
    have HO : Hid (Calls Ybad.prog 15 #[.slice (some ⟨bg, 0, none⟩) n cg] W fun e w' => ∃ bo, e = .returned (.tuple #[.slice (some ⟨bo, 0, none⟩) n n, .bool true]) ∧ Below W.heap.size W w') := hor.mono fun e w' ⟨h1, h2⟩ => by
      rcases h2 with ⟨h2, _⟩ | ⟨h2, bo, _, h3, h4⟩
      · omega
      · exact ⟨bo, h3, h1⟩
    have HA : Hid (Asks _ _ _ _ _ _ _) := ha
    have HL : Hid (_ = _) := hl
    clear hor ha hl
    go_enter Ybad.func17, Ybad.ntmps17
    go_upto_region 2 with (go_at_call 15; refine HO.out.mono ?_; rintro e w1 ⟨bo, rfl, hb1⟩; have c1 := (hb1.cell (p := ⟨Bc, 0, none⟩) hcl).trans hc)
    have H18 : Hid (Calls Ybad.prog 18 _ _ _) := walk18_ok w1 B bg cg n l g ho hn h1 (Nat.le_trans hB hb1.size) (hgr.below (hb1.mono hB)) (hdb.of_block (hb1.block 0 h0)) HL.out J Jx (HA.out.on hb1)
    unfold wkV at H18
    have HS : Hid (_ ≤ _) := hb1.size
    clear HO hdb hgr
    go_wp2_with (go_at_call 18; refine H18.out.mono ?_; rintro e w2 ⟨⟨v, rfl⟩, B1, q1, q2⟩)
    go_end0
    exact ⟨⟨_, rfl⟩, B1, Nat.le_trans HS.out q1, q2⟩
  · have HX : Hid (ordersOf g n = []) := if_neg hl
    rw [HX.out] at ha ⊢
    have HO : Hid (Calls Ybad.prog 15 #[.slice (some ⟨bg, 0, none⟩) n cg] W fun e w' => e = .returned (.tuple #[.slice none 0 0, .bool false]) ∧ Below W.heap.size W w') := hor.mono fun e w' ⟨h1, h2⟩ => by
      rcases h2 with ⟨_, h2⟩ | ⟨h2, _⟩
      · exact ⟨h2, h1⟩
      · exact absurd h2 hl
    have HA : Hid (Asks _ _ _ _ _ _ _) := ha
    clear hor ha hl
    go_enter Ybad.func17, Ybad.ntmps17
    go_wp2_with (go_at_call 15; refine HO.out.mono ?_; rintro e w1 ⟨rfl, hb1⟩)
    refine bodyPost_ret (results_none rfl _ _ _) rfl ?_
    exact ⟨⟨_, rfl⟩, W.heap.size, Nat.le_refl _, .inl (HA.out.start _ _ (Nat.le_refl _) hb1.size hb1)⟩

set_option maxHeartbeats 1000000 in
set_option maxRecDepth 100000 in
theorem orders_ok (w : World) (s : Value) (h : s.oneCell' = true) : Calls Ybad.prog 14 #[s] w fun e w' => e = .returned (.func (.func 17) #[] #[.pointer (some ⟨w.heap.size, 0, none⟩)]) ∧ w' = w.alloc (.cells #[s] 35) := by
  go_enter Ybad.func14, Ybad.ntmps14
  go_wp2_with fail
  go_ret
  exact ⟨rfl, rfl⟩
set_option maxHeartbeats 1000000 in
set_option maxRecDepth 100000 in
theorem serials_ok (w : World) (bG : Nat) : Calls Ybad.prog 7 #[.pointer (some ⟨bG, 0, none⟩)] w fun e w' => e = .returned (.func (.func 13) #[] #[.pointer (some ⟨w.heap.size, 0, none⟩)]) ∧ w' = w.alloc (.cells #[.pointer (some ⟨bG, 0, none⟩)] 25) := by
  go_enter Ybad.func7, Ybad.ntmps7
  go_wp2_with fail
  go_ret
  exact ⟨rfl, rfl⟩
end Go.Proofs.YbulkbhcsDoor
