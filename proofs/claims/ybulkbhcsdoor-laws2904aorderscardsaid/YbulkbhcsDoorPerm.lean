import Derived.Test.YbulkbhcsDoorSeq
import Derived.Test.YbulkbhcsDoorPermFull
namespace Go.Proofs.YbulkbhcsDoor

theorem Full.mem {n : Nat} {q : List Nat} (h : Full n q) {x : Nat} (hx : x < n) : x ∈ q := full_mem h.nodup h.lt h.len hx
theorem ix_mid {a b : List Nat} {v : Nat} (h : v ∉ a) : ix (a ++ v :: b) v = a.length := by
  unfold ix
  rw [List.idxOf_append, if_neg h, List.idxOf_cons_self, Nat.zero_add]
theorem ix_lt {a b : List Nat} {u : Nat} : ix (a ++ b) u < a.length ↔ u ∈ a := by
  unfold ix
  rw [List.idxOf_append]
  by_cases h : u ∈ a
  · simp [h, List.idxOf_lt_length_iff]
  · simp [h]
theorem topoB_iff {g : List (List Nat)} {q : List Nat} (ho : Ok g) (h : Full g.length q) : topoB g q = true ↔ Topo g q := by
  unfold topoB
  simp only [List.all_eq_true, List.mem_range, decide_eq_true_eq]
  constructor
  · intro hb a x b e
    have hnd := h.nodup
    rw [e, List.nodup_append] at hnd
    have hxa : x ∉ a := fun hx => hnd.2.2 x hx x (by simp) rfl
    refine ⟨h.lt x (by rw [e]; simp), hxa, rest_zero.2 fun u hu hua hxu => ?_⟩
    have := hb u hu x hxu
    rw [e, ix_mid hxa] at this
    exact hua (ix_lt.1 this)
  · intro ht u hu v hv
    have hvn := ho.lt u hu v hv
    obtain ⟨a, b, e⟩ := List.append_of_mem (h.mem hvn)
    have hf := ht a v b e
    rw [e, ix_mid hf.2.1]
    refine ix_lt.2 ?_
    by_cases hua : u ∈ a
    · exact hua
    · exact absurd hv (rest_zero.1 hf.2.2 u hu hua)
def visN (R : List (Option (List Nat))) : List (List Nat) := R.filterMap id
theorem vis_visN (R : List (Option (List Nat))) : vis R = (visN R).map ints := by
  unfold vis visN
  induction R with
  | nil => rfl
  | cons o R ih =>
    cases o with
    | none => simpa using ih
    | some q => simpa using ih
theorem arr_mem : ∀ (m : Nat) (l r : List Nat), l.Nodup → l.length = m → r ∈ arr m l → r.Nodup ∧ r.length = m ∧ ∀ x ∈ r, x ∈ l
  | 0, l, r, _, _, h => by
    simp [arr] at h
    subst h
    exact ⟨List.nodup_nil, rfl, by simp⟩
  | m + 1, l, r, hn, hl, h => by
    simp only [arr, List.mem_flatMap, List.mem_map] at h
    obtain ⟨v, hv, r', hr', rfl⟩ := h
    obtain ⟨h1, h2, h3⟩ := arr_mem m (l.erase v) r' (hn.erase v) (by rw [List.length_erase_of_mem hv]; omega) hr'
    refine ⟨List.nodup_cons.2 ⟨fun hx => (hn.not_mem_erase) (h3 v hx), h1⟩, by simp [h2], fun x hx => ?_⟩
    rcases List.mem_cons.1 hx with rfl | hx
    · exact hv
    · exact List.mem_of_mem_erase (h3 x hx)
theorem flat_congr {f h : Nat → List (List Nat)} : ∀ l : List Nat, (∀ v ∈ l, f v = h v) → l.flatMap f = l.flatMap h
  | [], _ => rfl
  | x :: l, e => by
    rw [List.flatMap_cons, List.flatMap_cons, e x (by simp), flat_congr l (fun v hv => e v (by simp [hv]))]
theorem flat_filter {P : Nat → Bool} {f : Nat → List (List Nat)} : ∀ l : List Nat, (l.filter P).flatMap f = l.flatMap (fun v => if P v then f v else [])
  | [] => rfl
  | x :: l => by
    have ih := flat_filter (P := P) (f := f) l
    by_cases h : P x
    · simp [h, ih]
    · simp [h, ih]
theorem erase_rest {n : Nat} {p : List Nat} {v : Nat} : ((List.range n).filter (fun x => !p.contains x)).erase v = (List.range n).filter (fun x => !(p ++ [v]).contains x) := by
  have hnd : ((List.range n).filter (fun x => !p.contains x)).Nodup := List.nodup_range.filter _
  rw [List.Nodup.erase_eq_filter hnd, List.filter_filter]
  refine List.filter_congr fun x _ => ?_
  simp
  by_cases h1 : x ∈ p <;> by_cases h2 : x = v <;> simp [h1, h2]
theorem visN_T {g : List (List Nat)} (ho : Ok g) : ∀ (m : Nat) (p : List Nat), Topo g p → Pre g p → p.length + m = g.length →
    visN (T g m p) = ((arr m ((List.range g.length).filter (fun x => !p.contains x))).map (p ++ ·)).filter (topoB g)
  | 0, p, ht, hp, hl => by
    have hb := (topoB_iff ho ⟨hp.nodup, hp.lt, by omega⟩).2 ht
    simp [T, visN, arr, hb]
  | m + 1, p, ht, hp, hl => by
    have hlen : ((List.range g.length).filter (fun x => !p.contains x)).length = m + 1 := by
      have hmm : ∀ x, x ∈ (List.range g.length).filter (fun x => !p.contains x) ↔ x < g.length ∧ x ∉ p := fun x => by simp
      have k1 := nodup_le g.length (p ++ (List.range g.length).filter (fun x => !p.contains x)) (by
        rw [List.nodup_append]
        exact ⟨hp.nodup, (List.nodup_range (n := g.length)).filter _, fun a ha b hb e => ((hmm b).1 hb).2 (e ▸ ha)⟩) (fun x hx => by
          rcases List.mem_append.1 hx with h | h
          · exact hp.lt x h
          · exact ((hmm x).1 h).1)
      have k2 := sub_len (List.range g.length) (p ++ (List.range g.length).filter (fun x => !p.contains x)) List.nodup_range (fun x hx => by
        by_cases e : x ∈ p
        · exact List.mem_append_left _ e
        · exact List.mem_append_right _ ((hmm x).2 ⟨List.mem_range.1 hx, e⟩))
      rw [List.length_append] at k1 k2
      rw [List.length_range] at k2
      omega
    have hnd := (List.nodup_range (n := g.length)).filter (fun x => !p.contains x)
    have hL : visN (T g (m + 1) p) = (frees g p).flatMap (fun v => visN (T g m (p ++ [v]))) := by
      simp only [T, visN, List.filterMap_append]
      have e0 : List.filterMap id ([none] : List (Option (List Nat))) = [] := rfl
      rw [e0, List.append_nil, List.filterMap_flatMap]
      congr 1
    have hfr : frees g p = ((List.range g.length).filter (fun x => !p.contains x)).filter (freeB g p) := by
      unfold frees
      rw [List.filter_filter]
      refine List.filter_congr fun x _ => ?_
      by_cases hx : x ∈ p
      · have : freeB g p x = false := by
          cases h : freeB g p x with
          | false => rfl
          | true => exact absurd hx (freeB_iff.1 h).2.1
        simp [hx, this]
      · simp [hx]
    rw [hL, hfr, flat_filter, arr, List.map_flatMap, List.filter_flatMap]
    have hcg : ∀ v ∈ (List.range g.length).filter (fun x => !p.contains x), (if freeB g p v = true then visN (T g m (p ++ [v])) else []) =
        (((arr m (((List.range g.length).filter (fun x => !p.contains x)).erase v)).map (v :: ·)).map (p ++ ·)).filter (topoB g) := fun v hv => by
      have hmap : ((arr m (((List.range g.length).filter (fun x => !p.contains x)).erase v)).map (v :: ·)).map (p ++ ·) = (arr m ((List.range g.length).filter (fun x => !(p ++ [v]).contains x))).map ((p ++ [v]) ++ ·) := by
        rw [erase_rest, List.map_map]
        refine List.map_congr_left fun r _ => ?_
        simp
      rw [hmap]
      by_cases hf : Free g p v
      · rw [if_pos (freeB_iff.2 hf)]
        exact visN_T ho m (p ++ [v]) (ht.snoc hf) (hp.place hf) (by simp; omega)
      · rw [if_neg (fun h => hf (freeB_iff.1 h))]
        symm
        rw [List.filter_eq_nil_iff]
        intro q hq hb
        rw [List.mem_map] at hq
        obtain ⟨r, hr, rfl⟩ := hq
        rw [← erase_rest] at hr
        have hvm := List.mem_filter.1 hv
        have hvp : v ∉ p := by simpa using hvm.2
        obtain ⟨h1, h2, h3⟩ := arr_mem m _ r (hnd.erase v) (by rw [List.length_erase_of_mem hv]; omega) hr
        have h3' : ∀ x ∈ r, x < g.length ∧ x ∉ p ∧ x ≠ v := fun x hx => by
          have := h3 x hx
          rw [erase_rest, List.mem_filter, List.mem_range] at this
          simp at this
          exact ⟨this.1, this.2.1, this.2.2⟩
        have hfull : Full g.length ((p ++ [v]) ++ r) := by
          refine ⟨?_, ?_, by simp [h2]; omega⟩
          · rw [List.nodup_append]
            refine ⟨?_, h1, ?_⟩
            · rw [List.nodup_append]
              exact ⟨hp.nodup, by simp, fun a ha b hb2 e => by simp at hb2; subst hb2; subst e; exact hvp ha⟩
            · intro a ha b hb2 e
              subst e
              obtain ⟨_, h5, h6⟩ := h3' a hb2
              rcases List.mem_append.1 ha with h | h
              · exact h5 h
              · simp at h; exact h6 h
          · intro x hx
            rcases List.mem_append.1 hx with h | h
            · rcases List.mem_append.1 h with h | h
              · exact hp.lt x h
              · simp at h; subst h; exact List.mem_range.1 hvm.1
            · exact (h3' x h).1
        have htq := (topoB_iff ho hfull).1 hb
        exact hf (htq p v r (by simp))
    exact flat_congr _ hcg
theorem ext_perm {g : List (List Nat)} {n : Nat} (ho : Ok g) (hn : g.length = n) : ext g n = ((CH n).filter (topoB g)).map ints := by
  unfold ext
  subst hn
  rw [vis_visN, visN_T ho g.length [] (fun a x b e => by cases a <;> cases e) (Pre.nil g) (by simp)]
  unfold CH
  congr 2
  have : (List.range g.length).filter (fun x => !([] : List Nat).contains x) = List.range g.length := by simp
  rw [this]
  simp
theorem goes_on' {g : List (List Nat)} {o : List Nat} (ht : Topo g o) (ho : Full g.length o) {p : List Nat} (hl : p.length < g.length) : ∃ x, Free g p x := by
  have hex : ∃ x ∈ o, x ∉ p := by
    by_cases h : ∃ x ∈ o, x ∉ p
    · exact h
    · have h2 : ∀ x ∈ o, x ∈ p := fun x hx => by
        by_cases e : x ∈ p
        · exact e
        · exact absurd ⟨x, hx, e⟩ h
      have := sub_len o p ho.nodup h2
      have := ho.len
      omega
  obtain ⟨a, x, b, e, hx, ha⟩ := first_out o hex
  have hf := ht a x b e
  exact ⟨x, hf.1, hx, rest_zero.2 fun v hv hvp => rest_zero.1 hf.2.2 v hv (fun hva => hvp (ha v hva))⟩
theorem greedy_full {g : List (List Nat)} (h : ∀ p : List Nat, p.length < g.length → ∃ x, Free g p x) : ∀ (m : Nat) (p : List Nat), p.length + m ≤ g.length → (greedy g m p).length = p.length + m
  | 0, p, _ => rfl
  | m + 1, p, hl => by
    unfold greedy
    split
    · rename_i e
      obtain ⟨x, hx⟩ := h p (by omega)
      have := mem_frees.2 hx
      rw [e] at this
      cases this
    · rename_i v l e
      rw [greedy_full h m (p ++ [v]) (by simp; omega)]
      simp
      omega
/-- What the iterator hands out is what the model lists. -/
theorem orders_perm {g : List (List Nat)} {n : Nat} (ho : Ok g) (hn : g.length = n) (h1 : 1 ≤ n) : ordersOf g n = ((CH n).filter (topoB g)).map ints := by
  have h6 : n ≤ 6 := by have := ho.n6; omega
  unfold ordersOf
  split
  · exact ext_perm ho hn
  · rename_i hl
    have : (CH n).filter (topoB g) = [] := by
      rw [List.filter_eq_nil_iff]
      intro q hq hb
      have hf := CH_full h1 h6 hq
      subst hn
      have ht := (topoB_iff ho hf).1 hb
      exact hl (by have := greedy_full (fun p hp => goes_on' ht hf hp) g.length [] (by simp); simpa using this)
    rw [this]; rfl
end Go.Proofs.YbulkbhcsDoor
