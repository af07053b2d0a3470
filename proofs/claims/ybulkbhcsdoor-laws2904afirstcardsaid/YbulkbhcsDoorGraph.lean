import Derived.Test.YbulkbhcsDoorIn
namespace Go.Proofs.YbulkbhcsDoor

/-- The edges' ends, of those that go out of nodes not in p. -/
def rest (g : List (List Nat)) (p : List Nat) : List Nat := ((List.range g.length).filter (fun v => !p.contains v)).flatMap (fun v => g.getD v [])
theorem rest_nil (g : List (List Nat)) : rest g [] = upto g g.length := by
  have h : ∀ n, n ≤ g.length → (List.range n).flatMap (fun v => g.getD v []) = upto g n := by
    intro n
    induction n with
    | zero => intro _; simp [upto]
    | succ n ih => intro hn; rw [List.range_succ, List.flatMap_append, ih (by omega), upto_succ g (by omega)]; simp
  have e : (List.range g.length).filter (fun v => !([] : List Nat).contains v) = List.range g.length := by simp
  rw [rest, e, h _ (Nat.le_refl _)]
theorem count_flat {f : Nat → List Nat} {v u : Nat} (p : List Nat) (hv : v ∉ p) : ∀ l : List Nat, l.Nodup → v ∈ l →
    ((l.filter (fun x => !p.contains x)).flatMap f).count u = (f v).count u + ((l.filter (fun x => !(p ++ [v]).contains x)).flatMap f).count u
  | [], _, h => by cases h
  | x :: l, hn, h => by
    rw [List.nodup_cons] at hn
    by_cases e : x = v
    · subst e
      have h1 : ∀ y ∈ l, (!p.contains y) = (!(p ++ [x]).contains y) := fun y hy => by
        have : y ≠ x := fun e => hn.1 (e ▸ hy)
        simp [this]
      have h2 : l.filter (fun y => !p.contains y) = l.filter (fun y => !(p ++ [x]).contains y) := List.filter_congr h1
      simp at h2
      simp [hv, h2]
    · have hvl : v ∈ l := by simpa [Ne.symm e] using h
      have ih := count_flat (f := f) (u := u) p hv l hn.2 hvl
      by_cases hx : x ∈ p
      · simp [hx]
        simpa using ih
      · simp [hx, e]
        simp at ih
        omega
theorem rest_place (g : List (List Nat)) {p : List Nat} {v : Nat} (hv : v < g.length) (hp : v ∉ p) (u : Nat) : (rest g p).count u = (g.getD v []).count u + (rest g (p ++ [v])).count u :=
  count_flat (f := fun v => g.getD v []) p hp (List.range g.length) List.nodup_range (List.mem_range.2 hv)

theorem nodup_le : ∀ (n : Nat) (l : List Nat), l.Nodup → (∀ x ∈ l, x < n) → l.length ≤ n
  | 0, l, _, h => by cases l with | nil => simp | cons x l => exact absurd (h x (by simp)) (by omega)
  | n + 1, l, hn, h => by
    by_cases e : n ∈ l
    · have := nodup_le n (l.erase n) (hn.erase n) (fun x hx => by
        have h1 := h x (List.mem_of_mem_erase hx)
        have h2 : x ≠ n := fun e => by subst e; exact (hn.not_mem_erase) hx
        omega)
      rw [List.length_erase_of_mem e] at this
      omega
    · have := nodup_le n l hn (fun x hx => by
        have h1 := h x hx
        have h2 : x ≠ n := fun e' => e (e' ▸ hx)
        omega)
      omega

/-- p can be the beginning of an order. -/
structure Pre (g : List (List Nat)) (p : List Nat) : Prop where
  nodup : p.Nodup
  lt : ∀ x ∈ p, x < g.length
  done : ∀ x ∈ p, (rest g p).count x = 0
theorem Pre.nil (g : List (List Nat)) : Pre g [] := ⟨List.nodup_nil, by simp, by simp⟩
theorem Pre.len {g : List (List Nat)} {p : List Nat} (h : Pre g p) : p.length ≤ g.length := nodup_le _ _ h.nodup h.lt
/-- u is free behind p. -/
def Free (g : List (List Nat)) (p : List Nat) (u : Nat) : Prop := u < g.length ∧ u ∉ p ∧ (rest g p).count u = 0
def freeB (g : List (List Nat)) (p : List Nat) (u : Nat) : Bool := decide (u < g.length) && (!p.contains u && decide ((rest g p).count u = 0))
theorem freeB_iff {g : List (List Nat)} {p : List Nat} {u : Nat} : freeB g p u = true ↔ Free g p u := by
  unfold freeB Free
  simp
theorem Pre.place {g : List (List Nat)} {p : List Nat} {v : Nat} (h : Pre g p) (hv : Free g p v) : Pre g (p ++ [v]) := by
  obtain ⟨h1, h2, h3⟩ := hv
  refine ⟨?_, ?_, ?_⟩
  · rw [List.nodup_append]
    refine ⟨h.nodup, by simp, ?_⟩
    intro a ha b hb
    simp at hb
    subst hb
    exact fun e => h2 (e ▸ ha)
  · intro x hx
    rcases List.mem_append.1 hx with hx | hx
    · exact h.lt x hx
    · simp at hx; omega
  · intro x hx
    have hr := rest_place g h1 h2 x
    rcases List.mem_append.1 hx with hx | hx
    · have := h.done x hx; omega
    · simp at hx; subst hx; omega
theorem Pre.fresh {g : List (List Nat)} {p : List Nat} {v u : Nat} (h : Pre g p) (hv : Free g p v) (hu : u ∈ g.getD v []) : u ∉ p ++ [v] := by
  obtain ⟨h1, h2, h3⟩ := hv
  have hr := rest_place g h1 h2 u
  have hc : 0 < (g.getD v []).count u := List.count_pos_iff.2 hu
  intro hx
  rcases List.mem_append.1 hx with hx | hx
  · have := h.done u hx; omega
  · simp at hx; subst hx; omega
/-- While v is being taken: k of its edges have been counted out. -/
def FreeK (g : List (List Nat)) (p : List Nat) (v k u : Nat) : Prop := u < g.length ∧ u ∉ p ++ [v] ∧ ((g.getD v []).drop k ++ rest g (p ++ [v])).count u = 0
theorem freeK_zero {g : List (List Nat)} {p : List Nat} {v u : Nat} (hv : Free g p v) : FreeK g p v 0 u ↔ Free g p u ∧ u ≠ v := by
  have hr := rest_place g hv.1 hv.2.1 u
  unfold FreeK Free
  simp only [List.drop_zero, List.count_append, List.mem_append, List.mem_singleton]
  constructor
  · rintro ⟨a, b, c⟩; exact ⟨⟨a, fun h => b (.inl h), by omega⟩, fun h => b (.inr h)⟩
  · rintro ⟨⟨a, b, c⟩, d⟩; exact ⟨a, fun h => h.elim b d, by omega⟩
theorem freeK_all {g : List (List Nat)} {p : List Nat} {v u : Nat} : FreeK g p v (g.getD v []).length u ↔ Free g (p ++ [v]) u := by
  unfold FreeK Free
  simp
theorem drop_get {L : List Nat} {k : Nat} (h : k < L.length) : L.drop k = L.getD k 0 :: L.drop (k + 1) := by
  rw [List.drop_eq_getElem_cons h, List.getD_eq_getElem?_getD, List.getElem?_eq_getElem h]; rfl
theorem freeK_step {g : List (List Nat)} {p : List Nat} {v k x : Nat} (hk : k < (g.getD v []).length) (hl : (g.getD v []).getD k 0 < g.length) (hf : (g.getD v []).getD k 0 ∉ p ++ [v]) :
    FreeK g p v (k + 1) x ↔ FreeK g p v k x ∨ (x = (g.getD v []).getD k 0 ∧ ((g.getD v []).drop (k + 1) ++ rest g (p ++ [v])).count ((g.getD v []).getD k 0) = 0) := by
  unfold FreeK
  rw [drop_get hk]
  generalize (g.getD v []).getD k 0 = u at *
  rw [List.cons_append]
  generalize (g.getD v []).drop (k + 1) ++ rest g (p ++ [v]) = E at *
  rw [List.count_cons]
  by_cases e : x = u
  · subst e
    simp only [beq_self_eq_true, if_true]
    constructor
    · rintro ⟨a, b, c⟩; exact .inr ⟨trivial, c⟩
    · rintro (⟨a, b, c⟩ | ⟨_, c⟩)
      · omega
      · exact ⟨hl, hf, c⟩
  · have e' : (u == x) = false := by rw [beq_eq_false_iff_ne]; exact fun h => e h.symm
    simp only [e', e, false_and, or_false, Bool.false_eq_true, if_false, Nat.add_zero]

/-- The free nodes, in increasing order. -/
def frees (g : List (List Nat)) (p : List Nat) : List Nat := (List.range g.length).filter (freeB g p)
theorem mem_frees {g : List (List Nat)} {p : List Nat} {u : Nat} : u ∈ frees g p ↔ Free g p u := by
  unfold frees
  rw [List.mem_filter, List.mem_range, freeB_iff]
  exact ⟨fun h => h.2, fun h => ⟨h.1, h⟩⟩
theorem frees_sorted (g : List (List Nat)) (p : List Nat) : (frees g p).Pairwise (· < ·) := List.Pairwise.filter _ List.pairwise_lt_range
/-- The order that takes the lowest free node each time. -/
def greedy (g : List (List Nat)) : Nat → List Nat → List Nat
  | 0, p => p
  | m + 1, p => match frees g p with
    | [] => p
    | v :: _ => greedy g m (p ++ [v])
theorem greedy_stop {g : List (List Nat)} {p : List Nat} (h : ∀ u, ¬ Free g p u) (m : Nat) : greedy g m p = p := by
  cases m with
  | zero => rfl
  | succ m =>
    have : frees g p = [] := List.eq_nil_iff_forall_not_mem.2 fun u hu => h u (mem_frees.1 hu)
    rw [greedy, this]
theorem frees_head {g : List (List Nat)} {p : List Nat} {v : Nat} (h : Free g p v) (hm : ∀ u, Free g p u → v ≤ u) : ∃ l, frees g p = v :: l := by
  have hv := mem_frees.2 h
  have hs := frees_sorted g p
  cases e : frees g p with
  | nil => rw [e] at hv; cases hv
  | cons x l =>
    rw [e] at hv hs
    have hx : Free g p x := mem_frees.1 (by rw [e]; simp)
    have h1 := hm x hx
    rcases List.mem_cons.1 hv with rfl | hl
    · exact ⟨l, rfl⟩
    · have := (List.pairwise_cons.1 hs).1 v hl
      omega
theorem greedy_step {g : List (List Nat)} {p : List Nat} {v m : Nat} (h : Free g p v) (hm : ∀ u, Free g p u → v ≤ u) : greedy g (m + 1) p = greedy g m (p ++ [v]) := by
  obtain ⟨l, hl⟩ := frees_head h hm
  rw [greedy, hl]
end Go.Proofs.YbulkbhcsDoor
