import Derived.Test.YbulkbhcsDoorTrace
namespace Go.Proofs.YbulkbhcsDoor

theorem rest_zero {g : List (List Nat)} {p : List Nat} {x : Nat} : (rest g p).count x = 0 ↔ ∀ v, v < g.length → v ∉ p → x ∉ g.getD v [] := by
  rw [List.count_eq_zero]
  unfold rest
  simp only [List.mem_flatMap, List.mem_filter, List.mem_range]
  constructor
  · intro h v h1 h2 h3
    exact h ⟨v, ⟨h1, by simpa using h2⟩, h3⟩
  · rintro h ⟨v, ⟨h1, h2⟩, h3⟩
    exact h v h1 (by simpa using h2) h3
/-- Each node of o is free behind those ahead of it. -/
def Topo (g : List (List Nat)) (o : List Nat) : Prop := ∀ a x b, o = a ++ x :: b → Free g a x
theorem Topo.snoc {g : List (List Nat)} {p : List Nat} {v : Nat} (h : Topo g p) (hv : Free g p v) : Topo g (p ++ [v]) := by
  intro a x b e
  rcases List.eq_nil_or_concat b with rfl | ⟨b', y, rfl⟩
  · have e2 : p ++ [v] = a ++ [x] := e
    obtain ⟨rfl, h2⟩ := List.append_inj' e2 rfl
    simp at h2
    subst h2
    exact hv
  · have e2 : p ++ [v] = (a ++ x :: b') ++ [y] := by rw [e]; simp
    obtain ⟨rfl, _⟩ := List.append_inj' e2 rfl
    exact h a x b' rfl
theorem Topo.pre {g : List (List Nat)} : ∀ (m : Nat) (p : List Nat), Topo g p → Pre g p → Topo g (greedy g m p) ∧ Pre g (greedy g m p)
  | 0, p, h, k => ⟨h, k⟩
  | m + 1, p, h, k => by
    unfold greedy
    split
    · exact ⟨h, k⟩
    · rename_i v l e
      have hv : Free g p v := mem_frees.1 (by rw [e]; simp)
      exact Topo.pre m (p ++ [v]) (h.snoc hv) (k.place hv)
/-- A list of n nodes below n, no two alike, holds every one. -/
theorem full_mem {n : Nat} {o : List Nat} (hn : o.Nodup) (hl : ∀ x ∈ o, x < n) (hlen : o.length = n) {x : Nat} (hx : x < n) : x ∈ o := by
  by_cases e : x ∈ o
  · exact e
  · have := nodup_le n (x :: o) (List.nodup_cons.2 ⟨e, hn⟩) (fun y hy => by
      rcases List.mem_cons.1 hy with rfl | hy
      · exact hx
      · exact hl y hy)
    simp at this
    omega
theorem sub_len : ∀ (o p : List Nat), o.Nodup → (∀ x ∈ o, x ∈ p) → o.length ≤ p.length
  | [], _, _, _ => by simp
  | x :: o, p, hn, h => by
    rw [List.nodup_cons] at hn
    have hx : x ∈ p := h x (by simp)
    have := sub_len o (p.erase x) hn.2 (fun y hy => (List.mem_erase_of_ne (fun e => hn.1 (by rw [← e]; exact hy))).2 (h y (by simp [hy])))
    rw [List.length_erase_of_mem hx] at this
    have := List.length_pos_of_mem hx
    simp only [List.length_cons]
    omega
theorem first_out {p : List Nat} : ∀ o : List Nat, (∃ x ∈ o, x ∉ p) → ∃ a x b, o = a ++ x :: b ∧ x ∉ p ∧ ∀ y ∈ a, y ∈ p
  | [], h => by obtain ⟨x, hx, _⟩ := h; cases hx
  | y :: o, h => by
    by_cases e : y ∈ p
    · obtain ⟨x, hx, hxp⟩ := h
      have hxo : x ∈ o := by
        rcases List.mem_cons.1 hx with rfl | h
        · exact absurd e hxp
        · exact h
      obtain ⟨a, z, b, e1, e2, e3⟩ := first_out o ⟨x, hxo, hxp⟩
      refine ⟨y :: a, z, b, by rw [e1]; rfl, e2, fun w hw => ?_⟩
      rcases List.mem_cons.1 hw with rfl | hw
      · exact e
      · exact e3 w hw
    · exact ⟨[], y, o, rfl, e, by simp⟩
/-- Where there is a whole order, every beginning goes on. -/
theorem goes_on {g : List (List Nat)} (hfull : (greedy g g.length []).length = g.length) {p : List Nat} (hl : p.length < g.length) : ∃ x, Free g p x := by
  obtain ⟨ht, ho⟩ := Topo.pre (g := g) g.length [] (fun a x b e => by cases a <;> cases e) (Pre.nil g)
  generalize greedy g g.length [] = o at *
  have hex : ∃ x ∈ o, x ∉ p := by
    by_cases h : ∃ x ∈ o, x ∉ p
    · exact h
    · have h2 : ∀ x ∈ o, x ∈ p := fun x hx => by
        by_cases e : x ∈ p
        · exact e
        · exact absurd ⟨x, hx, e⟩ h
      have := sub_len o p ho.nodup h2
      omega
  obtain ⟨a, x, b, e, hx, ha⟩ := first_out o hex
  have hf := ht a x b e
  refine ⟨x, hf.1, hx, rest_zero.2 fun v hv hvp => rest_zero.1 hf.2.2 v hv (fun hva => hvp (ha v hva))⟩
end Go.Proofs.YbulkbhcsDoor
