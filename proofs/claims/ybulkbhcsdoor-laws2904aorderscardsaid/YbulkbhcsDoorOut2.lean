import Derived.Test.YbulkbhcsDoorOut
import Derived.Test.YbulkbhcsDoorRound
namespace Go.Proofs.YbulkbhcsDoor
open Go.RowKit
/-- As Own, the rows being clones. -/
structure Own2 (w : World) (base n : Nat) (v : Value) (xs : List (List Int)) : Prop where
  ex : ∃ rs : List (Nat × Nat), rs.length = xs.length ∧ w.ownsRow base 29 1 v xs.length (rs.map (fun r => Value.slice (some ⟨r.1, 0, none⟩) n r.2)) ∧
    ∀ i, i < xs.length → base ≤ (rs.getD i (0, 0)).1 ∧ ∀ j, j < n → w.cell? ⟨(rs.getD i (0, 0)).1, j, none⟩ = some (.int .i64 ((xs.getD i []).getD j 0))
  nl : xs = [] → v = .slice none 0 0
theorem Own2.nil (w : World) (base n : Nat) : Own2 w base n (.slice none 0 0) [] := ⟨⟨[], rfl, World.ownsRow_nil w _ 29 1, fun i hi => by cases hi⟩, fun _ => rfl⟩
theorem Own2.keep {w w' : World} {base n : Nat} {v : Value} {xs : List (List Int)} (h : Own2 w base n v xs) (hb : ∀ k, base ≤ k → k < w.heap.size → w'.heap[k]? = w.heap[k]?) : Own2 w' base n v xs := by
  obtain ⟨⟨rs, k1, k2, k3⟩, k4⟩ := h
  refine ⟨⟨rs, k1, ?_, fun i hi => ⟨(k3 i hi).1, fun j hj => ?_⟩⟩, k4⟩
  · obtain ⟨q, h5 | ⟨g, cap, cur, hv, hg, hh, h6, h7, h8, h9⟩⟩ := k2
    · exact ⟨q, .inl h5⟩
    · exact ⟨q, .inr ⟨g, cap, cur, hv, hg, (hb g hg (lt_of_block hh)).trans hh, h6, h7, h8, h9⟩⟩
  · have hc := (k3 i hi).2 j hj
    exact (World.cell?_of_block (w := w) (hb _ (k3 i hi).1 (World.block_lt_of_cell? w _ hc))).trans hc
theorem Own2.ll {w : World} {base n : Nat} {v : Value} {xs : List (List Int)} (h : Own2 w base n v xs) : LL w n v xs := by
  obtain ⟨⟨rs, h1, ⟨q, h2⟩, h3⟩, h4⟩ := h
  rcases h2 with h5 | ⟨g, cap, cur, hv, hg, hh, h6, h7, h8, h9⟩
  · exact .inl ⟨h5.1, List.length_eq_zero_iff.1 h5.2⟩
  · refine .inr ⟨g, cap, hv, h6, fun i hi => ⟨(rs.getD i (0, 0)).1, (rs.getD i (0, 0)).2, ?_, (h3 i hi).2⟩⟩
    have h10 : (cur.toList.take (xs.length * 1))[i]? = some (.slice (some ⟨(rs.getD i (0, 0)).1, 0, none⟩) n (rs.getD i (0, 0)).2) := by
      rw [h9, List.getElem?_map, List.getD_eq_getElem?_getD, List.getElem?_eq_getElem (by omega)]; rfl
    rw [List.getElem?_take_of_lt (by omega)] at h10
    simp [World.cell?, hh]
    simpa using h10
theorem Own2.form {w : World} {base n : Nat} {v : Value} {xs : List (List Int)} (h : Own2 w base n v xs) : (v = .slice none 0 0 ∧ xs = []) ∨ ∃ g cap, v = .slice (some ⟨g, 0, none⟩) xs.length cap := by
  rcases h.ll with h | ⟨b, cap, hv, _, _⟩
  · exact .inl h
  · exact .inr ⟨b, cap, hv⟩
/-- No row lies in the block of the slice itself. -/
theorem Own2.ne {w : World} {base n : Nat} {v : Value} {xs : List (List Int)} (h : Own2 w base n v xs) {r : Nat} {z : Int} (hr : w.cell? ⟨r, 0, none⟩ = some (.int .i64 z)) : v.ownBlock ≠ some r := by
  obtain ⟨⟨rs, h1, ⟨q, h2⟩, h3⟩, h4⟩ := h
  rcases h2 with h5 | ⟨g, cap, cur, hv, hg, hh, h6, h7, h8, h9⟩
  · rw [h5.1]; simp [Value.ownBlock]
  · rw [hv]
    simp only [Value.ownBlock, ne_eq, Option.some.injEq]
    rintro rfl
    cases xs with
    | nil => have := h4 rfl; rw [hv] at this; cases this
    | cons x l =>
      cases rs with
      | nil => simp at h1
      | cons r0 rs =>
        have h10 : (cur.toList.take ((x :: l).length * 1))[0]? = some (.slice (some ⟨r0.1, 0, none⟩) n r0.2) := by rw [h9]; rfl
        rw [List.getElem?_take_of_lt (by simp)] at h10
        have h11 : w.cell? ⟨g, 0, none⟩ = some (.slice (some ⟨r0.1, 0, none⟩) n r0.2) := by
          simp [World.cell?, hh]
          simpa using h10
        rw [hr] at h11
        cases h11
theorem wpList_out2 {ops : Array Oper} {rest : List Oper} {o : Oper} {a : Act} {w : World} {Q : Exit → Act → World → Prop} (hg : o.guard = none) (s x : Operand)
    (ho : o.op = .call { callee := .builtin .append, args := #[s, x], argTypes := #[27, 27] }) (base n : Nat) (h1 : 1 ≤ n) (v : Value) (hs : a.eval s = v) (xs : List (List Int)) (hO : Own2 w base n v xs) (hb : base ≤ w.heap.size)
    (ad r cr : Nat) (hx : a.eval x = .slice (some ⟨ad, 0, none⟩) 1 1) (hc : w.cell? ⟨ad, 0, none⟩ = some (.slice (some ⟨r, 0, none⟩) n cr)) (y : List Int) (hr : ∀ j, j < n → w.cell? ⟨r, j, none⟩ = some (.int .i64 (y.getD j 0))) (hrb : base ≤ r) (hl : xs.length ≤ 1000)
    (h : ∀ g' cap' w', Own2 w' base n (.slice (some ⟨g', 0, none⟩) (xs.length + 1) cap') (xs ++ [y]) → Below base w w' →
      wpList Ybad.prog ops Q rest (a.put o.dst (.slice (some ⟨g', 0, none⟩) (xs.length + 1) cap')) w') : wpList Ybad.prog ops Q (o :: rest) a w := by
  refine wpList_plain hg fun K hK => ?_
  obtain ⟨i, hi, hz, hsz, hby⟩ := info_parts info29
  have hO' := hO
  obtain ⟨⟨rs, h2, h3, h4⟩, h5⟩ := hO
  refine wp_append_own w s x 27 ho base 29 i (.slice none 0 0) 1 24 Ybad.underlying27 hi hz hsz hby rfl (by decide) v xs.length _ hs h3 ⟨ad, 0, none⟩ 1 1 [.slice (some ⟨r, 0, none⟩) n cr] hx rfl (fun j u hj => ?_) (by simp [Value.oneCell']) (by unfold maxLen; omega) (by omega) hb ?_
  · cases j with
    | zero =>
      simp at hj
      rw [← hj]
      exact hc
    | succ j => simp at hj
  · intro v' w' hown hgr _
    have hgb : ∀ k, k < base → w'.heap[k]? = w.heap[k]? := fun k hk => by
      refine hgr.block k (by omega) ?_
      obtain ⟨_, h6 | ⟨g, cap, cur, hv, hgg, _⟩⟩ := h3
      · rw [h6.1]; simp [Value.ownBlock]
      · rw [hv]; simp [Value.ownBlock]; omega
    have hrow : ∀ q (z : List Int), (∀ j, j < n → w.cell? ⟨q, j, none⟩ = some (.int .i64 (z.getD j 0))) → ∀ j, j < n → w'.cell? ⟨q, j, none⟩ = some (.int .i64 (z.getD j 0)) := fun q z hq j hj => by
      exact (World.cell?_of_block (w := w) (hgr.block q (World.block_lt_of_cell? w _ (hq j hj)) (Ne.symm (hO'.ne (hq 0 (by omega)))))).trans (hq j hj)
    have e : (rs.map (fun r : Nat × Nat => Value.slice (some ⟨r.1, 0, none⟩) n r.2)) ++ [.slice (some ⟨r, 0, none⟩) n cr] = (rs ++ [(r, cr)]).map (fun r : Nat × Nat => Value.slice (some ⟨r.1, 0, none⟩) n r.2) := by simp
    rw [e] at hown
    have hown' := hown
    obtain ⟨q, h6 | ⟨g', cap', cur', hv', _⟩⟩ := hown
    · omega
    · subst hv'
      refine hK _ _ (h g' cap' w' ⟨⟨rs ++ [(r, cr)], by simp [h2], by simpa using hown', fun j hj => ?_⟩, fun hz => by simp at hz⟩ ⟨hgr.os, hgr.tape, hgr.output, hgr.size, hgb⟩)
      rw [List.length_append, List.length_singleton] at hj
      by_cases ej : j < xs.length
      · have e1 : (rs ++ [(r, cr)]).getD j (0, 0) = rs.getD j (0, 0) := by
          simp only [List.getD_eq_getElem?_getD]
          rw [List.getElem?_append_left (by omega)]
        have e2 : (xs ++ [y]).getD j [] = xs.getD j [] := by
          simp only [List.getD_eq_getElem?_getD]
          rw [List.getElem?_append_left (by omega)]
        rw [e1, e2]
        exact ⟨(h4 j ej).1, hrow _ _ (h4 j ej).2⟩
      · obtain rfl : j = xs.length := by omega
        have e1 : (rs ++ [(r, cr)]).getD xs.length (0, 0) = (r, cr) := by rw [← h2]; simp [List.getD_eq_getElem?_getD]
        have e2 : (xs ++ [y]).getD xs.length [] = y := by simp [List.getD_eq_getElem?_getD]
        rw [e1, e2]
        exact ⟨hrb, hrow _ _ hr⟩
/-- One of those that may come next. -/
theorem any_pick {P : Program} {md : Region.Mode} {ops : Array Oper} {Q : Exit → Act → World → Prop} {fuel : Nat} {listed : Array Bool} {a : Act} {w : World} {rs : List Nat} (hr : Region.ready md ops listed = rs) (hne : rs ≠ [])
    (h : ∀ i ∈ rs, ∃ o, ops[i]? = some o ∧ wpList P ops (Exit.then (wpAny P md ops Q fuel (listed.setIfInBounds i true)) Q) [o] a w) : wpAny P md ops Q (fuel + 1) listed a w := by
  refine ⟨fun h0 => absurd (hr ▸ h0) hne, fun i hi => ?_⟩
  rw [hr] at hi
  obtain ⟨o, ho, hw⟩ := h i hi
  unfold wpOp
  rw [ho]
  exact hw
end Go.Proofs.YbulkbhcsDoor
