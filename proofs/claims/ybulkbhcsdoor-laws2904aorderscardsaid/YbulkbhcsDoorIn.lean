import Derived.Test.YbulkbhcsDoorMake
namespace Go.Proofs.YbulkbhcsDoor
open Go.RowKit

/-- How often each node comes. -/
def cnt (n : Nat) (E : List Nat) : List Int := (List.range n).map (fun u => (E.count u : Int))
theorem cnt_length (n : Nat) (E : List Nat) : (cnt n E).length = n := by simp [cnt]
theorem cnt_get {n u : Nat} (E : List Nat) (h : u < n) : (cnt n E).getD u 0 = (E.count u : Int) := by
  rw [cnt, List.getD_eq_getElem?_getD, List.getElem?_map, List.getElem?_range h]; rfl
theorem cnt_nil (n : Nat) : cnt n [] = List.replicate n 0 := by
  apply List.ext_getElem
  · simp [cnt]
  · intro i h1 h2; simp [cnt]
theorem cnt_snoc {n : Nat} (E : List Nat) (u : Nat) : (cnt n E).set u ((E.count u : Int) + 1) = cnt n (E ++ [u]) := by
  apply List.ext_getElem
  · simp [cnt]
  · intro i h1 h2
    simp only [cnt, List.getElem_set, List.getElem_map, List.getElem_range, List.count_append]
    by_cases e : u = i
    · subst e; simp
    · simp [e]
/-- One lies less. -/
theorem cnt_less {n : Nat} (E : List Nat) (u : Nat) : (cnt n (u :: E)).set u (E.count u : Int) = cnt n E := by
  apply List.ext_getElem
  · simp [cnt]
  · intro i h1 h2
    simp only [cnt, List.getElem_set, List.getElem_map, List.getElem_range, List.count_cons]
    by_cases e : u = i
    · subst e; simp
    · simp [e]

/-- What is asked of a graph. -/
structure Ok (g : List (List Nat)) : Prop where
  n6 : g.length ≤ 6
  lt : ∀ v, v < g.length → ∀ u ∈ g.getD v [], u < g.length
  len : ∀ v, (g.getD v []).length ≤ 6

/-- The graph g lies at block bg, all of it below B. -/
structure Gr (B : Nat) (w : World) (bg : Nat) (g : List (List Nat)) : Prop where
  lt : bg < B
  at' : ∀ v, v < g.length → ∃ b cap, b < B ∧ w.cell? ⟨bg, v, none⟩ = some (.slice (some ⟨b, 0, none⟩) (g.getD v []).length cap) ∧
    ∀ i, i < (g.getD v []).length → w.cell? ⟨b, i, none⟩ = some (.int .i64 (((g.getD v []).getD i 0 : Nat) : Int))
theorem Gr.below {B : Nat} {w w' : World} {bg : Nat} {g : List (List Nat)} (h : Gr B w bg g) (hb : Below B w w') : Gr B w' bg g :=
  ⟨h.lt, fun v hv => by
    obtain ⟨b, cap, h1, h2, h3⟩ := h.at' v hv
    exact ⟨b, cap, h1, (hb.cell (p := ⟨bg, v, none⟩) h.lt).trans h2, fun i hi => (hb.cell (p := ⟨b, i, none⟩) h1).trans (h3 i hi)⟩⟩

/-- The edges out of the first i nodes. -/
def upto (g : List (List Nat)) (i : Nat) : List Nat := (g.take i).flatten
theorem upto_succ (g : List (List Nat)) {i : Nat} (h : i < g.length) : upto g (i + 1) = upto g i ++ g.getD i [] := by
  unfold upto
  rw [List.take_add_one, List.flatten_append, List.getD_eq_getElem?_getD, List.getElem?_eq_getElem h]
  simp
theorem upto_len {g : List (List Nat)} (h : Ok g) : ∀ i, i ≤ g.length → (upto g i).length ≤ 6 * i
  | 0, _ => by simp [upto]
  | i + 1, hi => by
    rw [upto_succ g (by omega)]
    have := upto_len h i (by omega)
    have := h.len i
    rw [List.length_append]; omega

set_option maxHeartbeats 1000000 in
set_option maxRecDepth 100000 in
theorem indeg_ok (w : World) (B bg cap : Nat) (g : List (List Nat)) (ho : Ok g) (hB : B ≤ w.heap.size) (hg : Gr B w bg g) :
    Calls Ybad.prog 19 #[.slice (some ⟨bg, 0, none⟩) g.length cap] w fun e w' => ∃ bi, e = .returned (.slice (some ⟨bi, 0, none⟩) g.length g.length) ∧ Row w' bi 3 .i64 (cnt g.length (upto g g.length)) ∧ Below w.heap.size w w' ∧ w.heap.size ≤ bi := by
  have n6 := ho.n6
  obtain ⟨n, hn⟩ : ∃ n, g.length = n := ⟨_, rfl⟩
  rw [hn]
  rw [hn] at n6
  have m1 := mk29 n (by omega)
  go_enter Ybad.func19, Ybad.ntmps19
  go_wp2_with fail
  have hr0 := row_new w n 3 .i64
  rw [← cnt_nil] at hr0
  have hb0 : Below w.heap.size w (w.alloc (.cells (Array.replicate n (.int .i64 0)) 3)) := (Below.refl _ _).alloc (Nat.le_refl _) _
  obtain ⟨bi, hbi⟩ : ∃ bi, w.heap.size = bi := ⟨_, rfl⟩
  rw [hbi] at hr0 hb0
  have hbB : B ≤ bi := by omega
  simp only [hbi]
  generalize w.alloc (.cells (Array.replicate n (.int .i64 0)) 3) = w1 at *
  clear m1
  go_loopg [13] n (fun gh s13 wr => ∃ i : Nat, i ≤ n ∧ gh = n - i ∧ s13 = .int .i64 i ∧ Row wr bi 3 .i64 (cnt n (upto g i)) ∧ Below bi w wr)
  case atStart => exact ⟨0, by omega, by omega, rfl, hr0, hb0⟩
  case round =>
    obtain ⟨i, hi, rfl, rfl, hr, hb⟩ := hrel
    clear hr0 hb0
    by_cases hlt : i < n
    · obtain ⟨b, cp, h1, h2, h3⟩ := (hg.below (hb.mono hbB)).at' i (by omega)
      have hlen := ho.len i
      have hul := upto_len ho i (by omega)
      have hin := ho.lt i (by omega)
      have hsucc := upto_succ g (i := i) (by omega)
      obtain ⟨L, hL⟩ : ∃ L, g.getD i [] = L := ⟨_, rfl⟩
      rw [hL] at h2 h3 hlen hin hsucc
      clear hL
      have hg2 : Hid (∀ i, i < L.length → wr.cell? ⟨b, i, none⟩ = some (.int .i64 ((L.getD i 0 : Nat) : Int))) := h3
      have HIN : Hid (∀ u ∈ L, u < g.length) := hin
      clear h3 hin
      obtain ⟨m, hm⟩ : ∃ m, L.length = m := ⟨_, rfl⟩
      rw [hm] at h2
      have b1 : (i : Int) < (n : Int) := by omega
      generalize wr = w2 at *
      go_wp2_with fail
      go_loopg [19] m (fun gh s19 wx => ∃ k : Nat, k ≤ m ∧ gh = m - k ∧ s19 = .int .i64 k ∧ Row wx bi 3 .i64 (cnt n (upto g i ++ L.take k)) ∧ Below bi w wx)
      case atStart => exact ⟨0, by omega, by omega, rfl, by simpa using hr, hb⟩
      case round =>
        obtain ⟨k, hk, rfl, rfl, hr2, hb2⟩ := hrel
        by_cases hlt2 : k < m
        · have hu := HIN.out (L.getD k 0) (by rw [List.getD_eq_getElem?_getD, List.getElem?_eq_getElem (by omega)]; exact List.getElem_mem _)
          have hl := hg2.out k (by omega)
          have hl2 : wr.cell? ⟨b, k, none⟩ = some (.int .i64 ((L.getD k 0 : Nat) : Int)) := by
            rw [hb2.cell (p := ⟨b, k, none⟩) (by show b < bi; omega), ← hb.cell (p := ⟨b, k, none⟩) (by show b < bi; omega)]; exact hl
          have htk : L.take (k + 1) = L.take k ++ [L.getD k 0] := by
            rw [List.take_add_one, List.getD_eq_getElem?_getD, List.getElem?_eq_getElem (by omega)]; rfl
          generalize L.getD k 0 = u at *
          have hrc := hr2.cell (i := u) (by rw [cnt_length]; omega)
          rw [cnt_get _ (by omega)] at hrc
          have hrf := hr2.free u
          have hcl : ((upto g i ++ L.take k).count u : Nat) ≤ 72 := by
            have := List.count_le_length (a := u) (l := upto g i ++ L.take k)
            rw [List.length_append, List.length_take] at this; omega
          have hset := hr2.set u (((upto g i ++ L.take k).count u : Int) + 1)
          rw [cnt_snoc, List.append_assoc, ← htk] at hset
          have HS : Hid (Row _ _ _ _ _) := hset
          generalize (upto g i ++ L.take k).count u = c at *
          have b2 : (u : Int) < (n : Int) := by omega
          have b3 : (k : Int) < (m : Int) := by omega
          clear hset htk hl
          go_wp2_with fail
          go_roundg (m - (k + 1))
          case measure => omega
          case rel => exact ⟨k + 1, by omega, rfl, by go_num, HS.out, hb2.setCell (Nat.le_refl _) _⟩
        · obtain rfl : k = m := by omega
          go_wp2_with fail
          go_roundg (n - (i + 1))
          case measure => omega
          case rel =>
            refine ⟨i + 1, by omega, rfl, by go_num, ?_, hb2⟩
            rw [hsucc]
            rw [List.take_of_length_le (by omega)] at hr2
            exact hr2
    · obtain rfl : i = n := by omega
      go_wp2_with fail
      go_ret
      exact ⟨bi, rfl, hr, by rw [hbi]; exact hb, by omega⟩
end Go.Proofs.YbulkbhcsDoor
