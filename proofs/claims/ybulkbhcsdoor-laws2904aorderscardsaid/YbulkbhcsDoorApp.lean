import Derived.Test.YbulkbhcsDoorPop
import Derived.Deep.AppendSrc
import Derived.ArgAppend
namespace Go.Proofs.YbulkbhcsDoor
open Go.RowKit

theorem hb_of_owns {w : World} {base k : Nat} {v : Value} {L : List Nat} (hL : L.length = k) (hk : 0 < k) (h : w.ownsRow base 3 1 v k (L.map (fun x : Nat => Value.int .i64 (x : Int)))) :
    ∃ g cap, v = .slice (some ⟨g, 0, none⟩) k cap ∧ base ≤ g ∧ cap ≤ maxLen ∧ Hb w g cap L := by
  obtain ⟨_, h1 | ⟨g, cap, cur, hv, hg, hh, hkc, hm, hsz, ht⟩⟩ := h
  · omega
  · refine ⟨g, cap, hv, hg, hm, cur, hh, by omega, by omega, fun i hi => ?_⟩
    have h2 : (cur.toList.take (k * 1))[i]? = some (.int .i64 ((L.getD i 0 : Nat) : Int)) := by
      rw [ht, List.getElem?_map, List.getD_eq_getElem?_getD, List.getElem?_eq_getElem hi]; rfl
    rw [List.getElem?_take_of_lt (by omega)] at h2
    simpa using h2
theorem Hb.push {w : World} {b cap : Nat} {L : List Nat} (h : Hb w b cap L) (hr : L.length < cap) (y : Nat) : Hb (w.setCell ⟨b, L.length, none⟩ (.int .i64 (y : Int))) b cap (L ++ [y]) := by
  obtain ⟨cs, h1, h2, h3, h4⟩ := h
  refine ⟨_, heap_set h1 _, by simpa using h2, by simp; omega, fun j hj => ?_⟩
  rw [Array.getElem?_setIfInBounds]
  by_cases e : L.length = j
  · subst e
    rw [if_pos rfl, if_pos (by omega)]
    simp [List.getD_eq_getElem?_getD]
  · rw [if_neg e]
    simp at hj
    rw [List.getD_eq_getElem?_getD, List.getElem?_append_left (by omega), ← List.getD_eq_getElem?_getD]
    exact h4 j (by omega)
theorem one_news {w : World} {ad y : Nat} (hc : w.cell? ⟨ad, 0, none⟩ = some (.int .i64 (y : Int))) : ∀ (j : Nat) (u : Value), [Value.int .i64 (y : Int)][j]? = some u → w.cell? ((⟨ad, 0, none⟩ : Addr).add j) = some u := by
  intro j u h
  cases j with
  | zero =>
    simp at h
    rw [← h]
    exact hc
  | succ j => simp at h

/-- 'x = append(x, y)'. -/
theorem wp_push {o : Oper} {a : Act} {w : World} {K : Act → World → Prop} {Q : Exit → Act → World → Prop} (s x : Operand) (t : TypeId) (ht : Ybad.prog.underlying t = some (.slice 3))
    (ho : o.op = .call { callee := .builtin .append, args := #[s, x], argTypes := #[t, t] }) (v : Value) (hs : a.eval s = v) (b cap : Nat) (L : List Nat)
    (hv : (v = .slice none 0 0 ∧ L = []) ∨ (v = .slice (some ⟨b, 0, none⟩) L.length cap ∧ cap ≤ maxLen ∧ Hb w b cap L)) (ad : Nat) (hx : a.eval x = .slice (some ⟨ad, 0, none⟩) 1 1) (y : Nat)
    (hc : w.cell? ⟨ad, 0, none⟩ = some (.int .i64 (y : Int))) (hL : L.length ≤ 6)
    (h : ∀ b' cap' w', cap' ≤ maxLen → Hb w' b' cap' (L ++ [y]) → (b' = b ∨ w.heap.size ≤ b') → Upd [b] w w' → (v ≠ .slice none 0 0 → L.length < cap → b' = b ∧ cap' = cap ∧ w'.heap.size = w.heap.size) →
      K (a.put o.dst (.slice (some ⟨b', 0, none⟩) (L.length + 1) cap')) w') : Oper.wp Ybad.prog o a w K Q := by
  obtain ⟨i, hi, hz, hsz, hby⟩ := info_parts info3
  rcases hv with ⟨rfl, rfl⟩ | ⟨rfl, hm, hh⟩
  · refine wp_append_own w s x t ho w.heap.size 3 i (.int .i64 0) 1 8 ht hi hz hsz hby rfl (by decide) _ 0 [] hs (World.ownsRow_nil w _ 3 1) ⟨ad, 0, none⟩ 1 1 [.int .i64 (y : Int)] hx rfl (one_news hc) (by simp [Value.oneCell']) (by decide) (by decide) (Nat.le_refl _) ?_
    intro v' w' hown hgr _
    obtain ⟨g, cp, rfl, h1, h2, h3⟩ := hb_of_owns (L := [y]) (k := 1) rfl (by omega) hown
    exact h g cp w' h2 h3 (.inr h1) ⟨hgr.os, hgr.tape, hgr.output, hgr.size, fun k hk _ => hgr.block k hk (by simp [Value.ownBlock])⟩ (fun hn => absurd rfl hn)
  · by_cases hr : L.length < cap
    · have hsrc : Src Ybad.prog 1 t (.slice (some ⟨ad, 0, none⟩) 1 1) 1 [.int .i64 (y : Int)] w := Src.ofSlice w ht ⟨ad, 0, none⟩ 1 1 [.int .i64 (y : Int)] rfl (one_news hc) (by simp [Value.oneCell'])
      have hrun := run_append_room_src (P := Ybad.prog) w t t o.type 3 i ht hi b 0 L.length cap _ 1 _ (by rw [hsz]; exact hsrc) (by omega)
        (fun j hj => by rw [hsz]; simp at hj; subst hj; simpa using hh.any hr) (fun j _ => hh.free _)
      rw [hsz] at hrun
      simp only [Nat.zero_add, Nat.mul_one] at hrun
      unfold Oper.wp
      simp [execOp, ho, resolve, invoke, builtin, hs, hx, hrun, Result.andThen]
      have e : w.setCells b L.length [.int .i64 (y : Int)] = w.setCell ⟨b, L.length, none⟩ (.int .i64 (y : Int)) := rfl
      rw [e]
      exact h b cap _ hm (hh.push hr y) (.inl rfl) ((Upd.refl _ _).setCell (by simp) _) (fun _ _ => ⟨rfl, rfl, by simp⟩)
    · obtain ⟨v', w', hrun, hown, hgr⟩ := run_append_arg_grows (P := Ybad.prog) w t o.type 3 i (.int .i64 0) 1 8 ht hi hz hsz hby rfl (by decide) ⟨b, 0, none⟩ L.length cap (L.map (fun x : Nat => Value.int .i64 (x : Int))) (by simp)
        (fun j u hj => by
          rw [List.getElem?_map] at hj
          by_cases hlt : j < L.length
          · have := hh.cell hlt
            rw [List.getElem?_eq_getElem hlt] at hj
            simp at hj
            rw [Addr.add_mid, Nat.zero_add, this, ← hj, List.getD_eq_getElem?_getD, List.getElem?_eq_getElem hlt]; rfl
          · rw [List.getElem?_eq_none (by omega)] at hj
            cases hj) ⟨ad, 0, none⟩ 1 1 [.int .i64 (y : Int)] rfl (one_news hc) (by omega) (by unfold maxLen; omega) (by omega)
      have e : (L.map (fun x : Nat => Value.int .i64 (x : Int))) ++ [.int .i64 (y : Int)] = (L ++ [y]).map (fun x : Nat => Value.int .i64 (x : Int)) := by simp
      rw [e] at hown
      obtain ⟨g, cp, rfl, h1, h2, h3⟩ := hb_of_owns (L := L ++ [y]) (k := L.length + 1) (by simp) (by omega) hown
      unfold Oper.wp
      simp [execOp, ho, resolve, invoke, builtin, hs, hx, hrun, Result.andThen]
      exact h g cp w' h2 h3 (.inr h1) ⟨hgr.os, hgr.tape, hgr.output, hgr.size, fun k hk _ => hgr.block k hk (by simp)⟩ (fun _ hq => absurd hq hr)
theorem wpList_push {ops : Array Oper} {rest : List Oper} {o : Oper} {a : Act} {w : World} {Q : Exit → Act → World → Prop} (hg : o.guard = none) (s x : Operand) (t : TypeId) (ht : Ybad.prog.underlying t = some (.slice 3))
    (ho : o.op = .call { callee := .builtin .append, args := #[s, x], argTypes := #[t, t] }) (v : Value) (hs : a.eval s = v) (b cap : Nat) (L : List Nat)
    (hv : (v = .slice none 0 0 ∧ L = []) ∨ (v = .slice (some ⟨b, 0, none⟩) L.length cap ∧ cap ≤ maxLen ∧ Hb w b cap L)) (ad : Nat) (hx : a.eval x = .slice (some ⟨ad, 0, none⟩) 1 1) (y : Nat)
    (hc : w.cell? ⟨ad, 0, none⟩ = some (.int .i64 (y : Int))) (hL : L.length ≤ 6)
    (h : ∀ b' cap' w', cap' ≤ maxLen → Hb w' b' cap' (L ++ [y]) → (b' = b ∨ w.heap.size ≤ b') → Upd [b] w w' → (v ≠ .slice none 0 0 → L.length < cap → b' = b ∧ cap' = cap ∧ w'.heap.size = w.heap.size) →
      wpList Ybad.prog ops Q rest (a.put o.dst (.slice (some ⟨b', 0, none⟩) (L.length + 1) cap')) w') : wpList Ybad.prog ops Q (o :: rest) a w :=
  wpList_plain hg fun _ hK => wp_push s x t ht ho v hs b cap L hv ad hx y hc hL fun b' cap' w' h1 h2 h3 h4 h5 => hK _ _ (h b' cap' w' h1 h2 h3 h4 h5)
end Go.Proofs.YbulkbhcsDoor
