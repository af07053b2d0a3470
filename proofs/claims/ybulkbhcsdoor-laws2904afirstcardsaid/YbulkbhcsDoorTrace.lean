import Derived.Test.YbulkbhcsDoorGraph
namespace Go.Proofs.YbulkbhcsDoor

/-- The walk's rounds below p, m places being open: 'some': an order is visited. -/
def T (g : List (List Nat)) : Nat → List Nat → List (Option (List Nat))
  | 0, p => [some p]
  | m + 1, p => (frees g p).flatMap (fun v => none :: T g m (p ++ [v])) ++ [none]
/-- Those that are left where the nodes below t have been tried. -/
def TT (g : List (List Nat)) (t : Nat) : Nat → List Nat → List (Option (List Nat))
  | 0, p => [some p]
  | m + 1, p => ((frees g p).filter (fun v => decide (t ≤ v))).flatMap (fun v => none :: T g m (p ++ [v])) ++ [none]
/-- Those behind what has been placed (given backwards). -/
def after (g : List (List Nat)) : List Nat → List (Option (List Nat))
  | [] => []
  | v :: q => TT g (v + 1) (g.length - q.length) q.reverse ++ after g q
theorem TT_zero (g : List (List Nat)) (m : Nat) (p : List Nat) : TT g 0 m p = T g m p := by
  cases m with
  | zero => rfl
  | succ m =>
    have h : (frees g p).filter (fun v => decide (0 ≤ v)) = frees g p := by
      rw [List.filter_eq_self]
      intro v _
      simp
    simp only [TT, T]
    rw [h]
theorem filter_next {g : List (List Nat)} {p : List Nat} {t v : Nat} (hv : Free g p v) (ht : t ≤ v) (hl : ∀ u, t ≤ u → u < v → ¬ Free g p u) :
    (frees g p).filter (fun x => decide (t ≤ x)) = v :: (frees g p).filter (fun x => decide (v + 1 ≤ x)) := by
  have hs := frees_sorted g p
  have hm := mem_frees.2 hv
  have hn : ∀ u ∈ frees g p, t ≤ u → v ≤ u := fun u hu h => by
    by_cases e : v ≤ u
    · exact e
    · exact absurd (mem_frees.1 hu) (hl u h (by omega))
  generalize frees g p = l at *
  induction l with
  | nil => cases hm
  | cons x l ih =>
    rw [List.pairwise_cons] at hs
    by_cases e : x = v
    · subst e
      have h1 : l.filter (fun y => decide (t ≤ y)) = l.filter (fun y => decide (x + 1 ≤ y)) := List.filter_congr (fun y hy => by
        have := hs.1 y hy
        have a : decide (t ≤ y) = true := by simp; omega
        have b : decide (x + 1 ≤ y) = true := by simp; omega
        rw [a, b])
      simp [ht, h1]
    · have hvl : v ∈ l := by simpa [Ne.symm e] using hm
      have h1 := hs.1 v hvl
      have h2 : ¬ t ≤ x := fun h => by have := hn x (by simp) h; omega
      have h3 : ¬ v + 1 ≤ x := by omega
      rw [List.filter_cons_of_neg (by simpa using h2), List.filter_cons_of_neg (by simpa using h3)]
      exact ih hs.2 hvl (fun u hu => hn u (by simp [hu]))
theorem filter_none {g : List (List Nat)} {p : List Nat} {t : Nat} (hl : ∀ u, t ≤ u → ¬ Free g p u) : (frees g p).filter (fun x => decide (t ≤ x)) = [] := by
  rw [List.filter_eq_nil_iff]
  intro u hu h
  exact hl u (by simpa using h) (mem_frees.1 hu)
/-- A node is placed. -/
theorem TT_place {g : List (List Nat)} {p : List Nat} {t v : Nat} (hp : p.length < g.length) (hv : Free g p v) (ht : t ≤ v) (hl : ∀ u, t ≤ u → u < v → ¬ Free g p u) :
    TT g t (g.length - p.length) p ++ after g p.reverse = none :: (TT g 0 (g.length - (p ++ [v]).length) (p ++ [v]) ++ after g (p ++ [v]).reverse) := by
  obtain ⟨m, hm⟩ : ∃ m, g.length - p.length = m + 1 := ⟨g.length - p.length - 1, by omega⟩
  have hm2 : g.length - (p ++ [v]).length = m := by simp; omega
  rw [hm2, TT_zero, List.reverse_append, List.reverse_singleton, List.singleton_append, after, List.length_reverse, List.reverse_reverse, hm]
  simp only [TT]
  rw [filter_next hv ht hl]
  simp
/-- No node is left: back. -/
theorem TT_back {g : List (List Nat)} {p : List Nat} {t : Nat} (hp : p.length < g.length) (hl : ∀ u, t ≤ u → ¬ Free g p u) : TT g t (g.length - p.length) p = [none] := by
  obtain ⟨m, hm⟩ : ∃ m, g.length - p.length = m + 1 := ⟨g.length - p.length - 1, by omega⟩
  rw [hm]
  simp only [TT]
  rw [filter_none hl]
  rfl
theorem TT_full {g : List (List Nat)} {p : List Nat} {t : Nat} (hp : p.length = g.length) : TT g t (g.length - p.length) p = [some p] := by
  rw [hp, Nat.sub_self]; rfl
theorem after_snoc {g : List (List Nat)} {p : List Nat} {v : Nat} : after g (p ++ [v]).reverse = TT g (v + 1) (g.length - p.length) p ++ after g p.reverse := by
  rw [List.reverse_append, List.reverse_singleton, List.singleton_append, after, List.length_reverse, List.reverse_reverse]
end Go.Proofs.YbulkbhcsDoor
