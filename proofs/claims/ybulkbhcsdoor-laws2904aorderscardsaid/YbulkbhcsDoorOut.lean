import Derived.Test.YbulkbhcsDoorEqs
import Derived.Test.YbulkbhcsDoorPush
namespace Go.Proofs.YbulkbhcsDoor
open Go.RowKit
/-- The slice v has been grown here, row by row; the rows are xs. -/
structure Own (w : World) (base n : Nat) (v : Value) (xs : List (List Int)) : Prop where
  ex : ∃ rs : List Nat, rs.length = xs.length ∧ w.ownsRow base 29 1 v xs.length (rs.map (fun r => Value.slice (some ⟨r, 0, none⟩) n n)) ∧ ∀ i, i < xs.length → base ≤ rs.getD i 0 ∧ Row w (rs.getD i 0) 3 .i64 (xs.getD i [])
  ln : ∀ x ∈ xs, x.length = n
theorem Own.nil (w : World) (base n : Nat) : Own w base n (.slice none 0 0) [] := ⟨⟨[], rfl, World.ownsRow_nil w _ 29 1, fun i hi => by cases hi⟩, by simp⟩
theorem Own.upd {S : List Nat} {w w' : World} {base n : Nat} {v : Value} {xs : List (List Int)} (h : Own w base n v xs) (u : Upd S w w') (hS : ∀ k, k ∈ S → k < base) : Own w' base n v xs := by
  obtain ⟨⟨rs, h1, h2, h3⟩, h4⟩ := h
  refine ⟨⟨rs, h1, ?_, fun i hi => ⟨(h3 i hi).1, u.row (h3 i hi).2 (fun hk => by have := hS _ hk; have := (h3 i hi).1; omega)⟩⟩, h4⟩
  obtain ⟨q, h5 | ⟨g, cap, cur, hv, hg, hh, h6, h7, h8, h9⟩⟩ := h2
  · exact ⟨q, .inl h5⟩
  · exact ⟨q, .inr ⟨g, cap, cur, hv, hg, (u.same g (lt_of_block hh) (fun hk => by have := hS _ hk; omega)).trans hh, h6, h7, h8, h9⟩⟩
theorem Own.ll {w : World} {base n : Nat} {v : Value} {xs : List (List Int)} (h : Own w base n v xs) : LL w n v xs := by
  obtain ⟨⟨rs, h1, ⟨q, h2⟩, h3⟩, h4⟩ := h
  rcases h2 with h5 | ⟨g, cap, cur, hv, hg, hh, h6, h7, h8, h9⟩
  · exact .inl ⟨h5.1, List.length_eq_zero_iff.1 h5.2⟩
  · refine .inr ⟨g, cap, hv, h6, fun i hi => ⟨rs.getD i 0, n, ?_, fun j hj => ?_⟩⟩
    · have h10 : (cur.toList.take (xs.length * 1))[i]? = some (.slice (some ⟨rs.getD i 0, 0, none⟩) n n) := by
        rw [h9, List.getElem?_map, List.getD_eq_getElem?_getD, List.getElem?_eq_getElem (by omega)]; rfl
      rw [List.getElem?_take_of_lt (by omega)] at h10
      simp [World.cell?, hh]
      simpa using h10
    · have hx : (xs.getD i []).length = n := h4 _ (by rw [List.getD_eq_getElem?_getD, List.getElem?_eq_getElem hi]; exact List.getElem_mem _)
      exact (h3 i hi).2.cell (by omega)
theorem wpList_out {ops : Array Oper} {rest : List Oper} {o : Oper} {a : Act} {w : World} {Q : Exit → Act → World → Prop} (hg : o.guard = none) (s x : Operand)
    (ho : o.op = .call { callee := .builtin .append, args := #[s, x], argTypes := #[27, 27] }) (base n : Nat) (v : Value) (hs : a.eval s = v) (xs : List (List Int)) (hO : Own w base n v xs) (hb : base ≤ w.heap.size)
    (ad r : Nat) (hx : a.eval x = .slice (some ⟨ad, 0, none⟩) 1 1) (hc : w.cell? ⟨ad, 0, none⟩ = some (.slice (some ⟨r, 0, none⟩) n n)) (y : List Int) (hr : Row w r 3 .i64 y) (hy : y.length = n) (hrb : base ≤ r) (hl : xs.length ≤ 1000)
    (h : ∀ g' cap' w', Own w' base n (.slice (some ⟨g', 0, none⟩) (xs.length + 1) cap') (xs ++ [y]) → Below base w w' →
      wpList Ybad.prog ops Q rest (a.put o.dst (.slice (some ⟨g', 0, none⟩) (xs.length + 1) cap')) w') : wpList Ybad.prog ops Q (o :: rest) a w := by
  refine wpList_plain hg fun K hK => ?_
  obtain ⟨i, hi, hz, hsz, hby⟩ := info_parts info29
  obtain ⟨⟨rs, h1, h2, h3⟩, h4⟩ := hO
  refine wp_append_own w s x 27 ho base 29 i (.slice none 0 0) 1 24 Ybad.underlying27 hi hz hsz hby rfl (by decide) v xs.length _ hs h2 ⟨ad, 0, none⟩ 1 1 [.slice (some ⟨r, 0, none⟩) n n] hx rfl (fun j u hj => ?_) (by simp [Value.oneCell']) (by unfold maxLen; omega) (by omega) hb ?_
  · cases j with
    | zero =>
      simp at hj
      rw [← hj]
      exact hc
    | succ j => simp at hj
  · intro v' w' hown hgr _
    have hgb : ∀ k, k < base → w'.heap[k]? = w.heap[k]? := fun k hk => by
      refine hgr.block k (by omega) ?_
      obtain ⟨_, h5 | ⟨g, cap, cur, hv, hgg, _⟩⟩ := h2
      · rw [h5.1]; simp [Value.ownBlock]
      · rw [hv]; simp [Value.ownBlock]; omega
    have hrow : ∀ q z, Row w q 3 .i64 z → Row w' q 3 .i64 z := fun q z hq => by
      refine hq.of_block (hgr.block q hq.lt ?_)
      obtain ⟨_, h5 | ⟨g, cap, cur, hv, hgg, hh, _⟩⟩ := h2
      · rw [h5.1]; simp [Value.ownBlock]
      · rw [hv]
        simp [Value.ownBlock]
        rintro rfl
        unfold Row at hq
        rw [hh] at hq
        simp at hq
    have e : (rs.map (fun r => Value.slice (some ⟨r, 0, none⟩) n n)) ++ [.slice (some ⟨r, 0, none⟩) n n] = (rs ++ [r]).map (fun r => Value.slice (some ⟨r, 0, none⟩) n n) := by simp
    rw [e] at hown
    have hown' := hown
    obtain ⟨q, h5 | ⟨g', cap', cur', hv', _⟩⟩ := hown
    · omega
    · subst hv'
      refine hK _ _ (h g' cap' w' ⟨⟨rs ++ [r], by simp [h1], by simpa using hown', fun j hj => ?_⟩, fun z hz => ?_⟩ ⟨hgr.os, hgr.tape, hgr.output, hgr.size, hgb⟩)
      · rw [List.length_append, List.length_singleton] at hj
        by_cases ej : j < xs.length
        · have e1 : (rs ++ [r]).getD j 0 = rs.getD j 0 := by
            simp only [List.getD_eq_getElem?_getD]
            rw [List.getElem?_append_left (by omega)]
          have e2 : (xs ++ [y]).getD j [] = xs.getD j [] := by
            simp only [List.getD_eq_getElem?_getD]
            rw [List.getElem?_append_left (by omega)]
          rw [e1, e2]
          exact ⟨(h3 j ej).1, hrow _ _ (h3 j ej).2⟩
        · obtain rfl : j = xs.length := by omega
          have e1 : (rs ++ [r]).getD xs.length 0 = r := by rw [← h1]; simp [List.getD_eq_getElem?_getD]
          have e2 : (xs ++ [y]).getD xs.length [] = y := by simp [List.getD_eq_getElem?_getD]
          rw [e1, e2]
          exact ⟨hrb, hrow _ _ hr⟩
      · rcases List.mem_append.1 hz with hz | hz
        · exact h4 z hz
        · simp at hz; rw [hz]; exact hy
end Go.Proofs.YbulkbhcsDoor
