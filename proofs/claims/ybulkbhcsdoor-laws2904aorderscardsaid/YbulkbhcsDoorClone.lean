import Derived.Test.YbulkbhcsDoorApp
namespace Go.Proofs.YbulkbhcsDoor
open Go.RowKit

theorem eq29s (d : Nat) (x : Addr) (l c : Nat) (w : World) : (Op.equalIn (d + 1) 29 (.slice (some x) l c) (.slice none 0 0)).run Ybad.prog w = .ok false w := by
  simp [Op.equalIn, run_underlying Ybad.underlying29]
theorem eql29 (x : Addr) (l c : Nat) (w : World) : (binOp .eql 29 (.slice (some x) l c) (.slice none 0 0)).run Ybad.prog w = .ok (.bool false) w := by
  have h : (Op.equal 29 (.slice (some x) l c) (.slice none 0 0)).run Ybad.prog w = .ok false w := eq29s 9999 x l c w
  show ((do pure (Value.bool (← Op.equal 29 (.slice (some x) l c) (.slice none 0 0))) : Sem Value)).run Ybad.prog w = _
  simp [h]
theorem wpList_cat {ops : Array Oper} {rest : List Oper} {o : Oper} {a : Act} {w : World} {Q : Exit → Act → World → Prop} (hg : o.guard = none) (s x : Operand)
    (ho : o.op = .call { callee := .builtin .append, args := #[s, x], argTypes := #[29, 29] }) (e0 : Addr) (hs : a.eval s = .slice (some e0) 0 0) (b n cap : Nat) (hx : a.eval x = .slice (some ⟨b, 0, none⟩) n cap) (zs : List Int) (hz : zs.length = n) (h1 : 1 ≤ n) (h6 : n ≤ 6)
    (hc : ∀ i, i < n → w.cell? ⟨b, i, none⟩ = some (.int .i64 (zs.getD i 0)))
    (h : ∀ g cp w', w.heap.size ≤ g → (∀ i, i < n → w'.cell? ⟨g, i, none⟩ = some (.int .i64 (zs.getD i 0))) → Below w.heap.size w w' → wpList Ybad.prog ops Q rest (a.put o.dst (.slice (some ⟨g, 0, none⟩) n cp)) w') : wpList Ybad.prog ops Q (o :: rest) a w := by
  refine wpList_plain hg fun K hK => ?_
  obtain ⟨i, hi, hzz, hsz, hby⟩ := info_parts info3
  obtain ⟨v', w', hrun, hown, hgr⟩ := run_append_arg_grows (P := Ybad.prog) w 29 o.type 3 i (.int .i64 0) 1 8 Ybad.underlying29 hi hzz hsz hby rfl (by decide) e0 0 0 [] rfl (by simp) ⟨b, 0, none⟩ n cap (zs.map (Value.int .i64)) (by simpa using hz)
    (fun j u hj => by
      rw [List.getElem?_map] at hj
      by_cases hlt : j < zs.length
      · rw [List.getElem?_eq_getElem hlt] at hj
        simp at hj
        rw [Addr.add_mid, Nat.zero_add, hc j (by omega), ← hj, List.getD_eq_getElem?_getD, List.getElem?_eq_getElem hlt]; rfl
      · rw [List.getElem?_eq_none (by omega)] at hj
        cases hj) (by omega) (by unfold maxLen; omega) (by omega)
  rw [Nat.zero_add, List.nil_append] at hown
  obtain ⟨_, h2 | ⟨g, cp, cur, rfl, hg', hh, _, _, hcs, ht⟩⟩ := hown
  · omega
  unfold Oper.wp
  simp [execOp, ho, resolve, invoke, builtin, hs, hx, hrun, Result.andThen]
  refine hK _ _ (h g cp w' hg' (fun j hj => ?_) ((Below.refl _ _).grown hgr (Nat.le_refl _) (by simp)))
  have h3 : (cur.toList.take (n * 1))[j]? = some (.int .i64 (zs.getD j 0)) := by
    rw [ht, List.getElem?_map, List.getD_eq_getElem?_getD, List.getElem?_eq_getElem (by omega)]; rfl
  rw [List.getElem?_take_of_lt (by omega)] at h3
  simp [World.cell?, hh]
  simpa using h3
set_option maxHeartbeats 1000000 in
set_option maxRecDepth 100000 in
theorem clone_ok (w : World) (b n cap : Nat) (zs : List Int) (hz : zs.length = n) (h1 : 1 ≤ n) (h6 : n ≤ 6) (hc : ∀ i, i < n → w.cell? ⟨b, i, none⟩ = some (.int .i64 (zs.getD i 0))) :
    Calls Ybad.prog 8 #[.slice (some ⟨b, 0, none⟩) n cap] w fun e w' => ∃ g cp, e = .returned (.slice (some ⟨g, 0, none⟩) n cp) ∧ w.heap.size ≤ g ∧ (∀ i, i < n → w'.cell? ⟨g, i, none⟩ = some (.int .i64 (zs.getD i 0))) ∧ Below w.heap.size w w' := by
  have he := eql29
  have hb : b < w.heap.size := World.block_lt_of_cell? w ⟨b, 0, none⟩ (hc 0 (by omega))
  have HC : Hid (∀ i, i < n → (w.alloc (.cells #[] 3)).cell? ⟨b, i, none⟩ = some (.int .i64 (zs.getD i 0))) := fun i hi => (World.cell?_of_block (w := w) (Below.heap_alloc _ _ _ hb)).trans (hc i hi)
  clear hc
  go_enter Ybad.func8, Ybad.ntmps8
  go_wp2_with (refine wpList_cat rfl (.tmp 5) (.tmp 6) rfl ⟨w.heap.size, 0, none⟩ rfl b n cap rfl zs hz h1 h6 HC.out ?_; intro g cp w' k1 k2 k3)
  go_ret
  exact ⟨g, cp, rfl, by simp at k1; omega, k2, ((Below.refl _ _).alloc (Nat.le_refl _) _).trans (k3.mono (by simp))⟩
end Go.Proofs.YbulkbhcsDoor
