/- Plain facts on the heap of at most six nodes. -/
namespace Go.Proofs.YbulkbhcsDoor

/-- Down from place i, m places being in use. -/
def sift (m last : Nat) : Nat → List Nat → Nat → List Nat × Nat
  | 0, q, i => (q, i)
  | f + 1, q, i =>
    if m ≤ 2 * i + 1 then (q, i) else
    let d := if 2 * i + 1 + 1 < m ∧ q.getD (2 * i + 1 + 1) 0 < q.getD (2 * i + 1) 0 then 2 * i + 1 + 1 else 2 * i + 1
    if last ≤ q.getD d 0 then (q, i) else sift m last f (q.set i (q.getD d 0)) d
/-- What is left in the row when the lowest is taken out: the first h.length - 1 of it are the heap. -/
def popF (h : List Nat) : List Nat :=
  let r := sift (h.length - 1) (h.getD (h.length - 1) 0) 7 h 0
  if 0 < h.length - 1 then (r.1.set r.2 (h.getD (h.length - 1) 0)).take (h.length - 1) else []
/-- Up from place i. -/
def lift (v : Nat) : Nat → List Nat → Nat → List Nat × Nat
  | 0, q, i => (q, i)
  | f + 1, q, i =>
    if i = 0 then (q, i) else
    if q.getD ((i - 1) / 2) 0 ≤ v then (q, i) else lift v f (q.set i (q.getD ((i - 1) / 2) 0)) ((i - 1) / 2)
def pushF (h : List Nat) (v : Nat) : List Nat :=
  let r := lift v 7 (h ++ [v]) h.length
  r.1.set r.2 v

def heapB (h : List Nat) : Bool := (List.range h.length).all fun i => i == 0 || decide (h.getD ((i - 1) / 2) 0 ≤ h.getD i 0)
def nodupB : List Nat → Bool
  | [] => true
  | x :: l => !l.contains x && nodupB l
/-- All lists of k nodes, no two alike. -/
def lists : Nat → List (List Nat)
  | 0 => [[]]
  | k + 1 => (lists k).flatMap fun l => ((List.range 6).filter fun x => !l.contains x).map (· :: l)
def popB (h : List Nat) : Bool :=
  !heapB h || h.isEmpty || (heapB (popF h) && nodupB (popF h) && (popF h).all (fun x => decide (x < 6)) && (popF h).length == h.length - 1 && h.all (fun x => decide (h.getD 0 0 ≤ x)) &&
    (List.range 6).all (fun u => (popF h).contains u == (h.contains u && !(u == h.getD 0 0))))
def pushB : List Nat → Bool
  | [] => true
  | v :: h => !heapB h || (heapB (pushF h v) && nodupB (pushF h v) && (pushF h v).all (fun x => decide (x < 6)) && (pushF h v).length == h.length + 1 && (List.range 6).all (fun u => (pushF h v).contains u == (h.contains u || u == v)))
theorem pop_all : (List.range 7).all (fun k => (lists k).all popB) = true := by decide +kernel
theorem push_all : (List.range 7).all (fun k => (lists k).all pushB) = true := by decide +kernel
theorem lists7 : lists 7 = [] := by decide +kernel

theorem mem_lists : ∀ l : List Nat, l.Nodup → (∀ x ∈ l, x < 6) → l ∈ lists l.length
  | [], _, _ => by simp [lists]
  | x :: l, h1, h2 => by
    rw [List.nodup_cons] at h1
    have ih := mem_lists l h1.2 (fun y hy => h2 y (by simp [hy]))
    simp only [List.length_cons, lists, List.mem_flatMap]
    refine ⟨l, ih, List.mem_map.2 ⟨x, List.mem_filter.2 ⟨List.mem_range.2 (h2 x (by simp)), by simpa using h1.1⟩, rfl⟩⟩
theorem lists_more : ∀ k, lists (7 + k) = []
  | 0 => lists7
  | k + 1 => by rw [← Nat.add_assoc, lists, lists_more k]; rfl
theorem small {l : List Nat} (h1 : l.Nodup) (h2 : ∀ x ∈ l, x < 6) : l.length < 7 := by
  have h := mem_lists l h1 h2
  by_cases e : l.length < 7
  · exact e
  · obtain ⟨k, hk⟩ : ∃ k, l.length = 7 + k := ⟨l.length - 7, by omega⟩
    rw [hk, lists_more] at h
    cases h
theorem nodup_of_B : ∀ l : List Nat, nodupB l = true → l.Nodup
  | [], _ => List.nodup_nil
  | x :: l, h => by
    simp only [nodupB, Bool.and_eq_true, Bool.not_eq_true'] at h
    refine List.nodup_cons.2 ⟨?_, nodup_of_B l h.2⟩
    intro hx
    have h1 := h.1
    simp [hx] at h1

/-- A heap of nodes. -/
structure IsHeap (h : List Nat) : Prop where
  heap : heapB h = true
  nodup : h.Nodup
  lt : ∀ x ∈ h, x < 6
theorem IsHeap.pop {h : List Nat} (H : IsHeap h) (hne : h ≠ []) :
    IsHeap (popF h) ∧ (popF h).length = h.length - 1 ∧ (∀ x ∈ h, h.getD 0 0 ≤ x) ∧ ∀ u, u < 6 → (u ∈ popF h ↔ (u ∈ h ∧ u ≠ h.getD 0 0)) := by
  have hs := small H.nodup H.lt
  have hm := mem_lists h H.nodup H.lt
  have h1 := List.all_eq_true.1 (List.all_eq_true.1 pop_all h.length (List.mem_range.2 hs)) h hm
  have he : h.isEmpty = false := by cases h with | nil => exact absurd rfl hne | cons => rfl
  simp only [popB, H.heap, he, Bool.not_true, Bool.false_or, Bool.and_eq_true] at h1
  obtain ⟨⟨⟨⟨⟨a1, a2⟩, a6⟩, a7⟩, a3⟩, a4⟩ := h1
  refine ⟨⟨a1, nodup_of_B _ a2, fun x hx => by simpa using List.all_eq_true.1 a6 x hx⟩, by simpa using a7, fun x hx => by simpa using List.all_eq_true.1 a3 x hx, fun u hu => ?_⟩
  have := List.all_eq_true.1 a4 u (List.mem_range.2 hu)
  simp only [beq_iff_eq, List.contains_eq_mem] at this
  have h2 : decide (u ∈ popF h) = true ↔ (decide (u ∈ h) && !(u == h.getD 0 0)) = true := by rw [this]
  simpa using h2
theorem IsHeap.push {h : List Nat} (H : IsHeap h) {v : Nat} (hv : v ∉ h) (h6 : v < 6) :
    IsHeap (pushF h v) ∧ (pushF h v).length = h.length + 1 ∧ ∀ u, u < 6 → (u ∈ pushF h v ↔ (u ∈ h ∨ u = v)) := by
  have N : (v :: h).Nodup := List.nodup_cons.2 ⟨hv, H.nodup⟩
  have L : ∀ x ∈ v :: h, x < 6 := fun x hx => by
    rcases List.mem_cons.1 hx with rfl | hx
    · exact h6
    · exact H.lt x hx
  have hs := small N L
  have hm := mem_lists (v :: h) N L
  have h1 := List.all_eq_true.1 (List.all_eq_true.1 push_all (v :: h).length (List.mem_range.2 hs)) (v :: h) hm
  simp only [pushB, H.heap, Bool.not_true, Bool.false_or, Bool.and_eq_true] at h1
  obtain ⟨⟨⟨⟨a1, a2⟩, a6⟩, a7⟩, a4⟩ := h1
  refine ⟨⟨a1, nodup_of_B _ a2, fun x hx => by simpa using List.all_eq_true.1 a6 x hx⟩, by simpa using a7, fun u hu => ?_⟩
  have := List.all_eq_true.1 a4 u (List.mem_range.2 hu)
  simp only [beq_iff_eq, List.contains_eq_mem] at this
  have h2 : decide (u ∈ pushF h v) = true ↔ (decide (u ∈ h) || u == v) = true := by rw [this]
  simpa using h2
/-- A list in increasing order is a heap. -/
theorem IsHeap.sorted {h : List Nat} (hp : h.Pairwise (· < ·)) (lt : ∀ x ∈ h, x < 6) : IsHeap h := by
  refine ⟨?_, hp.imp (fun h => Nat.ne_of_lt h), lt⟩
  refine List.all_eq_true.2 fun i hi => ?_
  have hi := List.mem_range.1 hi
  by_cases e : i = 0
  · simp [e]
  · have h1 : (i - 1) / 2 < i := by omega
    have := List.pairwise_iff_getElem.1 hp ((i - 1) / 2) i (by omega) hi h1
    simp only [List.getD_eq_getElem?_getD, List.getElem?_eq_getElem hi, List.getElem?_eq_getElem (show (i - 1) / 2 < h.length by omega), Option.getD_some]
    simp [Nat.le_of_lt this]
end Go.Proofs.YbulkbhcsDoor
