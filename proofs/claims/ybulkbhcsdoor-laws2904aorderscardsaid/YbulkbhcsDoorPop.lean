import Derived.Test.YbulkbhcsDoorIn
import Derived.Test.YbulkbhcsDoorHeap
namespace Go.Proofs.YbulkbhcsDoor
open Go.RowKit

/-- Block b is a row of cap numbers, the first of them L. -/
def Hb (w : World) (b cap : Nat) (L : List Nat) : Prop :=
  ∃ cs : Array Value, w.heap[b]? = some (.cells cs 3 (0, 0)) ∧ cs.size = cap ∧ L.length ≤ cap ∧ ∀ i, i < L.length → cs[i]? = some (.int .i64 ((L.getD i 0 : Nat) : Int))
section
variable {w w' : World} {b cap : Nat} {L : List Nat}
theorem Hb.lt (h : Hb w b cap L) : b < w.heap.size := by obtain ⟨cs, h1, _⟩ := h; exact lt_of_block h1
theorem Hb.of_block (h : Hb w b cap L) (hb : w'.heap[b]? = w.heap[b]?) : Hb w' b cap L := by
  obtain ⟨cs, h1, h2⟩ := h
  exact ⟨cs, hb.trans h1, h2⟩
theorem Hb.cell (h : Hb w b cap L) {i : Nat} (hi : i < L.length) : w.cell? ⟨b, i, none⟩ = some (.int .i64 ((L.getD i 0 : Nat) : Int)) := by
  obtain ⟨cs, h1, h2, h3, h4⟩ := h
  have := h4 i hi
  simp [World.cell?, h1] at this ⊢
  exact this
theorem Hb.any (h : Hb w b cap L) {i : Nat} (hi : i < cap) : (w.cell? ⟨b, i, none⟩).isSome = true := by
  obtain ⟨cs, h1, h2, h3, h4⟩ := h
  simp [World.cell?, h1, h2, hi]
theorem Hb.free (h : Hb w b cap L) (i : Nat) : w.frozen? ⟨b, i, none⟩ = false := by
  obtain ⟨cs, h1, _⟩ := h
  simp [World.frozen?, h1]
theorem Hb.set (h : Hb w b cap L) {i : Nat} (hi : i < L.length) (x : Nat) : Hb (w.setCell ⟨b, i, none⟩ (.int .i64 (x : Int))) b cap (L.set i x) := by
  obtain ⟨cs, h1, h2, h3, h4⟩ := h
  refine ⟨_, heap_set h1 _, by simpa using h2, by simpa using h3, fun j hj => ?_⟩
  simp only [List.length_set] at hj
  rw [Array.getElem?_setIfInBounds]
  by_cases e : i = j
  · subst e
    rw [if_pos rfl, if_pos (by omega)]
    simp [List.getD_eq_getElem?_getD, hj]
  · rw [if_neg e]
    have := h4 j hj
    simpa [List.getD_eq_getElem?_getD, List.getElem?_set_ne e] using this
theorem Hb.take (h : Hb w b cap L) (m : Nat) : Hb w b cap (L.take m) := by
  obtain ⟨cs, h1, h2, h3, h4⟩ := h
  refine ⟨cs, h1, h2, by rw [List.length_take]; omega, fun j hj => ?_⟩
  rw [List.length_take] at hj
  have := h4 j (by omega)
  rw [List.getD_eq_getElem?_getD, List.getElem?_take_of_lt (by omega)]
  simpa [List.getD_eq_getElem?_getD] using this
end

/-- The variable at block bf is a heap, in block b where there is one. -/
def HpAt (w : World) (bf b : Nat) (h : List Nat) : Prop :=
  bf ≠ b ∧ ((w.heap[bf]? = some (.cells #[.slice none 0 0] 60 (0, 0)) ∧ h = []) ∨
   ∃ cap, w.heap[bf]? = some (.cells #[.slice (some ⟨b, 0, none⟩) h.length cap] 60 (0, 0)) ∧ cap ≤ maxLen ∧ Hb w b cap h)

theorem sift_stop {m last f i : Nat} {q : List Nat} (h : m ≤ 2 * i + 1) : sift m last f q i = (q, i) := by
  cases f with
  | zero => rfl
  | succ f => rw [sift, if_pos h]
/-- One step down. -/
theorem sift_step {m last f i d : Nat} {q : List Nat} (h : ¬ m ≤ 2 * i + 1) (hd : d = if 2 * i + 1 + 1 < m ∧ q.getD (2 * i + 1 + 1) 0 < q.getD (2 * i + 1) 0 then 2 * i + 1 + 1 else 2 * i + 1) :
    (last ≤ q.getD d 0 → sift m last (f + 1) q i = (q, i)) ∧ (¬ last ≤ q.getD d 0 → sift m last (f + 1) q i = sift m last f (q.set i (q.getD d 0)) d) := by
  constructor
  · intro hl
    rw [sift, if_neg h]
    dsimp only
    rw [← hd, if_pos hl]
  · intro hl
    rw [sift, if_neg h]
    dsimp only
    rw [← hd, if_neg hl]
/-- Behind the pop's last stores. -/
theorem pop_done {w wr : World} {bf b cap m i last : Nat} {h q : List Nat} (hbb : bf ≠ b) (hcap : m + 1 ≤ cap) (hm : cap ≤ 2 ^ 63 - 1) (hf : w.heap[bf]? = some (.cells #[.slice (some ⟨b, 0, none⟩) (m + 1) cap] 60 (0, 0)))
    (HP : popF h = if 0 < m then ((q.set i last).take m) else []) (hq : q.length = m + 1) (hi : i < m ∨ i = 0) (hh : Hb wr b cap q) (hu : Upd [bf, b] w wr) (hw : wr.heap[bf]? = w.heap[bf]?) :
    (0 < m → HpAt ((wr.setCell ⟨b, i, none⟩ (.int .i64 (last : Int))).setCell ⟨bf, 0, none⟩ (.slice (some ⟨b, 0, none⟩) m cap)) bf b (popF h) ∧ Upd [bf, b] w ((wr.setCell ⟨b, i, none⟩ (.int .i64 (last : Int))).setCell ⟨bf, 0, none⟩ (.slice (some ⟨b, 0, none⟩) m cap))) ∧
    (m = 0 → HpAt (wr.setCell ⟨bf, 0, none⟩ (.slice (some ⟨b, 0, none⟩) 0 cap)) bf b (popF h) ∧ Upd [bf, b] w (wr.setCell ⟨bf, 0, none⟩ (.slice (some ⟨b, 0, none⟩) 0 cap))) := by
  constructor
  · intro h0
    rw [HP, if_pos h0]
    refine ⟨⟨hbb, .inr ⟨cap, ?_, by unfold maxLen; exact hm, ?_⟩⟩, (hu.setCell (by simp) _).setCell (by simp) _⟩
    · refine (heap_set ((Below.heap_setCell _ _ _ _ (by simpa using hbb)).trans (hw.trans hf)) _).trans ?_
      simp [hq]
    · exact ((hh.set (by omega) last).take m).of_block (Below.heap_setCell _ _ _ _ (by simpa using Ne.symm hbb))
  · intro h0
    rw [HP, if_neg (by omega)]
    refine ⟨⟨hbb, .inr ⟨cap, ?_, by unfold maxLen; exact hm, ?_⟩⟩, hu.setCell (by simp) _⟩
    · refine (heap_set (hw.trans hf) _).trans ?_
      simp
    · exact (show Hb wr b cap [] from by simpa using hh.take 0).of_block (Below.heap_setCell _ _ _ _ (by simpa using Ne.symm hbb))

set_option maxHeartbeats 1000000 in
set_option maxRecDepth 100000 in
theorem pop_ok (w : World) (bf b : Nat) (h : List Nat) (H : IsHeap h) (hne : h ≠ []) (hp : HpAt w bf b h) :
    Calls Ybad.prog 20 #[.pointer (some ⟨bf, 0, none⟩)] w fun e w' => e = .returned (.int .i64 ((h.getD 0 0 : Nat) : Int)) ∧ HpAt w' bf b (popF h) ∧ Upd [bf, b] w w' := by
  have h7 := small H.nodup H.lt
  obtain ⟨hbb, ⟨_, rfl⟩ | ⟨cap, hf, hm, hh⟩⟩ := hp
  · exact absurd rfl hne
  obtain ⟨m, hlen⟩ : ∃ m, h.length = m + 1 := ⟨h.length - 1, by have : 0 < h.length := List.length_pos_iff.2 hne; omega⟩
  have hcap : m + 1 ≤ cap := by obtain ⟨cs, _, _, h3, _⟩ := hh; omega
  unfold maxLen at hm
  rw [hlen] at hf h7
  have cf : w.cell? ⟨bf, 0, none⟩ = some (.slice (some ⟨b, 0, none⟩) (m + 1) cap) := by simp [World.cell?, hf]
  have ff : w.frozen? ⟨bf, 0, none⟩ = false := by simp [World.frozen?, hf]
  have c0 := hh.cell (i := 0) (by omega)
  have cl := hh.cell (i := m) (by omega)
  have HP : Hid (popF h = let r := sift m (h.getD m 0) 7 h 0; if 0 < m then (r.1.set r.2 (h.getD m 0)).take m else []) := by
    show popF h = _
    unfold popF
    rw [hlen]; rfl
  obtain ⟨low, hlow⟩ : ∃ x, h.getD 0 0 = x := ⟨_, rfl⟩
  obtain ⟨last, hlast⟩ : ∃ x, h.getD m 0 = x := ⟨_, rfl⟩
  rw [hlow] at c0 ⊢
  rw [hlast] at cl HP
  have hsub : ((m : Int) + 1 - 1) = (m : Int) := by omega
  go_enter Ybad.func20, Ybad.ntmps20
  go_upto_region 2 with fail
  go_quiet (fail)
  go_upto_region 5 with fail
  have hh0 : Hb (w.drewN nq) b cap h := hh
  have hu0 : Upd [bf, b] w (w.drewN nq) := Upd.of_below (below_drewN (Below.refl _ _) _)
  have hw0 : (w.drewN nq).heap[bf]? = w.heap[bf]? := rfl
  generalize w.drewN nq = w1 at *
  clear c0 cl cf ff
  go_loopg [6] 7 (fun gh s6 wr => ∃ (q : List Nat) (i G : Nat), gh = G ∧ s6 = .int .i64 i ∧ q.length = m + 1 ∧ (i < m ∨ i = 0) ∧ m ≤ i + G ∧ Hb wr b cap q ∧ Upd [bf, b] w wr ∧ wr.heap[bf]? = w.heap[bf]? ∧ sift m last G q i = sift m last 7 h 0)
  case atStart => exact ⟨h, 0, 7, rfl, rfl, hlen, .inr rfl, by omega, hh0, hu0, hw0, rfl⟩
  case round =>
    obtain ⟨q, i, G, hG, rfl, hq, hi, hfu, hh2, hu, hw, hs⟩ := hrel
    clear hh0 hu0 hw0
    by_cases hA : m ≤ 2 * i + 1
    · have HF := sift_stop (last := last) (f := G) (q := q) hA
      have hA' : (m : Int) ≤ 2 * (i : Int) + 1 := by omega
      have hfin' : popF h = if 0 < m then ((q.set i last).take m) else [] := by rw [HP.out, ← hs, HF]
      obtain ⟨d1, d2⟩ := pop_done hbb hcap hm hf hfin' hq hi hh2 hu hw
      clear hfin' HF
      rcases Nat.eq_zero_or_pos m with h0 | h0
      · have e0 := d2 h0
        have b0 : ¬ (0 : Int) < (m : Int) := by omega
        have cf2 : wr.cell? ⟨bf, 0, none⟩ = some (.slice (some ⟨b, 0, none⟩) (m + 1) cap) := by simp [World.cell?, hw.trans hf]
        have ff2 : wr.frozen? ⟨bf, 0, none⟩ = false := by simp [World.frozen?, hw.trans hf]
        subst h0
        go_wp2_with fail
        go_ret
        exact ⟨rfl, e0⟩
      · have e0 := d1 h0
        have b0 : (0 : Int) < (m : Int) := by omega
        have b9 : (i : Int) < (m : Int) := by omega
        have ci := hh2.cell (i := i) (by omega)
        have fi := hh2.free i
        have cf2 : (wr.setCell ⟨b, i, none⟩ (.int .i64 (last : Int))).cell? ⟨bf, 0, none⟩ = some (.slice (some ⟨b, 0, none⟩) (m + 1) cap) := (World.cell?_of_block (w := wr) (Below.heap_setCell _ _ _ _ (by simpa using hbb))).trans (by simp [World.cell?, hw.trans hf])
        have ff2 : (wr.setCell ⟨b, i, none⟩ (.int .i64 (last : Int))).frozen? ⟨bf, 0, none⟩ = false := (World.frozen?_of_block (w := wr) (Below.heap_setCell _ _ _ _ (by simpa using hbb))).trans (by simp [World.frozen?, hw.trans hf])
        go_wp2_with fail
        go_ret
        exact ⟨rfl, e0⟩
    · have hA' : ¬ (m : Int) ≤ 2 * (i : Int) + 1 := by omega
      obtain ⟨f, rfl⟩ : ∃ f, G = f + 1 := ⟨G - 1, by omega⟩
      have c1 := hh2.cell (i := 2 * i + 1) (by omega)
      obtain ⟨y1, hy1⟩ : ∃ y, q.getD (2 * i + 1) 0 = y := ⟨_, rfl⟩
      obtain ⟨y2, hy2⟩ : ∃ y, q.getD (2 * i + 1 + 1) 0 = y := ⟨_, rfl⟩
      rw [hy1] at c1
      have bA : 2 * (i : Int) + 1 < (m : Int) := by omega
      have c2 := hh2.cell (i := 2 * i + 1 + 1) (by omega)
      rw [hy2] at c2
      by_cases hB : 2 * i + 1 + 1 < m
      · have hB' : 2 * (i : Int) + 1 + 1 < (m : Int) := by omega
        have hBd : decide (2 * (i : Int) + 1 + 1 < (m : Int)) = true := by simpa using hB'
        by_cases hC : y2 < y1
        · have hC' : (y2 : Int) < (y1 : Int) := by omega
          have hst := sift_step (last := last) (f := f) (d := 2 * i + 1 + 1) hA (by rw [hy1, hy2]; rw [if_pos ⟨hB, hC⟩])
          rw [hy2] at hst
          have hDl : ((2 * i + 1 + 1 : Nat) : Int) < (m : Int) := by omega
          have hDp : i + 1 ≤ 2 * i + 1 + 1 := by omega
          have hDm : 2 * i + 1 + 1 < m := by omega
          simp only [Int.natCast_add, Int.natCast_mul, Int.cast_ofNat_Int] at hDl
          go_upto_region 7 with fail
          go_quiet (fail)
          have hh3 : Hb (wr.drewN nq) b cap q := hh2
          have hu3 : Upd [bf, b] w (wr.drewN nq) := hu.trans (Upd.of_below (below_drewN (Below.refl _ _) _))
          have hw3 : (wr.drewN nq).heap[bf]? = w.heap[bf]? := hw
          have cd : (wr.drewN nq).cell? ⟨b, 2 * i + 1 + 1, none⟩ = some (.int .i64 (y2 : Int)) := c2
          generalize wr.drewN nq = wq at *
          clear c1 c2 hh2 hu hw
          by_cases hl : last ≤ y2
          · have HF := hst.1 hl
            have hl' : (last : Int) ≤ (y2 : Int) := by omega
            clear hst
            have hfin' : popF h = if 0 < m then ((q.set i last).take m) else [] := by rw [HP.out, ← hs, HF]
            obtain ⟨d1, _⟩ := pop_done hbb hcap hm hf hfin' hq hi hh3 hu3 hw3
            clear hfin' HF
            have e0 := d1 (by omega)
            have b0 : (0 : Int) < (m : Int) := by omega
            have b9 : (i : Int) < (m : Int) := by omega
            have ci := hh3.cell (i := i) (by omega)
            have fi := hh3.free i
            have cf2 : (wq.setCell ⟨b, i, none⟩ (.int .i64 (last : Int))).cell? ⟨bf, 0, none⟩ = some (.slice (some ⟨b, 0, none⟩) (m + 1) cap) := (World.cell?_of_block (w := wq) (Below.heap_setCell _ _ _ _ (by simpa using hbb))).trans (by simp [World.cell?, hw3.trans hf])
            have ff2 : (wq.setCell ⟨b, i, none⟩ (.int .i64 (last : Int))).frozen? ⟨bf, 0, none⟩ = false := (World.frozen?_of_block (w := wq) (Below.heap_setCell _ _ _ _ (by simpa using hbb))).trans (by simp [World.frozen?, hw3.trans hf])
            go_wp2_with fail
            go_ret
            exact ⟨rfl, e0⟩
          · have HF := hst.2 hl
            have hl' : ¬ (last : Int) ≤ (y2 : Int) := by omega
            clear hst
            have b9 : (i : Int) < (m : Int) := by omega
            have ci := hh3.cell (i := i) (by omega)
            have fi := hh3.free i
            have HS : Hid (Hb _ _ _ _) := hh3.set (i := i) (by omega) y2
            go_wp2_with fail
            go_roundg f
            case measure => omega
            case rel => exact ⟨_, 2 * i + 1 + 1, f, rfl, by go_num, by simpa using hq, .inl hDm, by omega, HS.out, (hu3.setCell (by simp) _), (Below.heap_setCell _ _ _ _ (by simpa using hbb)).trans hw3, by rw [← HF]; exact hs⟩
        · have hC' : ¬ (y2 : Int) < (y1 : Int) := by omega
          have hst := sift_step (last := last) (f := f) (d := 2 * i + 1) hA (by rw [hy1, hy2]; rw [if_neg (fun h => hC h.2)])
          rw [hy1] at hst
          have hDl : ((2 * i + 1 : Nat) : Int) < (m : Int) := by omega
          have hDp : i + 1 ≤ 2 * i + 1 := by omega
          have hDm : 2 * i + 1 < m := by omega
          simp only [Int.natCast_add, Int.natCast_mul, Int.cast_ofNat_Int] at hDl
          go_upto_region 7 with fail
          go_quiet (fail)
          have hh3 : Hb (wr.drewN nq) b cap q := hh2
          have hu3 : Upd [bf, b] w (wr.drewN nq) := hu.trans (Upd.of_below (below_drewN (Below.refl _ _) _))
          have hw3 : (wr.drewN nq).heap[bf]? = w.heap[bf]? := hw
          have cd : (wr.drewN nq).cell? ⟨b, 2 * i + 1, none⟩ = some (.int .i64 (y1 : Int)) := c1
          generalize wr.drewN nq = wq at *
          clear c1 c2 hh2 hu hw
          by_cases hl : last ≤ y1
          · have HF := hst.1 hl
            have hl' : (last : Int) ≤ (y1 : Int) := by omega
            clear hst
            have hfin' : popF h = if 0 < m then ((q.set i last).take m) else [] := by rw [HP.out, ← hs, HF]
            obtain ⟨d1, _⟩ := pop_done hbb hcap hm hf hfin' hq hi hh3 hu3 hw3
            clear hfin' HF
            have e0 := d1 (by omega)
            have b0 : (0 : Int) < (m : Int) := by omega
            have b9 : (i : Int) < (m : Int) := by omega
            have ci := hh3.cell (i := i) (by omega)
            have fi := hh3.free i
            have cf2 : (wq.setCell ⟨b, i, none⟩ (.int .i64 (last : Int))).cell? ⟨bf, 0, none⟩ = some (.slice (some ⟨b, 0, none⟩) (m + 1) cap) := (World.cell?_of_block (w := wq) (Below.heap_setCell _ _ _ _ (by simpa using hbb))).trans (by simp [World.cell?, hw3.trans hf])
            have ff2 : (wq.setCell ⟨b, i, none⟩ (.int .i64 (last : Int))).frozen? ⟨bf, 0, none⟩ = false := (World.frozen?_of_block (w := wq) (Below.heap_setCell _ _ _ _ (by simpa using hbb))).trans (by simp [World.frozen?, hw3.trans hf])
            go_wp2_with fail
            go_ret
            exact ⟨rfl, e0⟩
          · have HF := hst.2 hl
            have hl' : ¬ (last : Int) ≤ (y1 : Int) := by omega
            clear hst
            have b9 : (i : Int) < (m : Int) := by omega
            have ci := hh3.cell (i := i) (by omega)
            have fi := hh3.free i
            have HS : Hid (Hb _ _ _ _) := hh3.set (i := i) (by omega) y1
            go_wp2_with fail
            go_roundg f
            case measure => omega
            case rel => exact ⟨_, 2 * i + 1, f, rfl, by go_num, by simpa using hq, .inl hDm, by omega, HS.out, (hu3.setCell (by simp) _), (Below.heap_setCell _ _ _ _ (by simpa using hbb)).trans hw3, by rw [← HF]; exact hs⟩
      · have hB' : ¬ 2 * (i : Int) + 1 + 1 < (m : Int) := by omega
        have hBd : decide (2 * (i : Int) + 1 + 1 < (m : Int)) = false := by simpa using hB'
        have hst := sift_step (last := last) (f := f) (d := 2 * i + 1) hA (by rw [hy1, hy2]; rw [if_neg (fun h => hB h.1)])
        rw [hy1] at hst
        have hDl : ((2 * i + 1 : Nat) : Int) < (m : Int) := by omega
        have hDp : i + 1 ≤ 2 * i + 1 := by omega
        have hDm : 2 * i + 1 < m := by omega
        simp only [Int.natCast_add, Int.natCast_mul, Int.cast_ofNat_Int] at hDl
        go_upto_region 7 with fail
        go_quiet (fail)
        have hh3 : Hb (wr.drewN nq) b cap q := hh2
        have hu3 : Upd [bf, b] w (wr.drewN nq) := hu.trans (Upd.of_below (below_drewN (Below.refl _ _) _))
        have hw3 : (wr.drewN nq).heap[bf]? = w.heap[bf]? := hw
        have cd : (wr.drewN nq).cell? ⟨b, 2 * i + 1, none⟩ = some (.int .i64 (y1 : Int)) := c1
        generalize wr.drewN nq = wq at *
        clear c1 c2 hh2 hu hw
        by_cases hl : last ≤ y1
        · have HF := hst.1 hl
          have hl' : (last : Int) ≤ (y1 : Int) := by omega
          clear hst
          have hfin' : popF h = if 0 < m then ((q.set i last).take m) else [] := by rw [HP.out, ← hs, HF]
          obtain ⟨d1, _⟩ := pop_done hbb hcap hm hf hfin' hq hi hh3 hu3 hw3
          clear hfin' HF
          have e0 := d1 (by omega)
          have b0 : (0 : Int) < (m : Int) := by omega
          have b9 : (i : Int) < (m : Int) := by omega
          have ci := hh3.cell (i := i) (by omega)
          have fi := hh3.free i
          have cf2 : (wq.setCell ⟨b, i, none⟩ (.int .i64 (last : Int))).cell? ⟨bf, 0, none⟩ = some (.slice (some ⟨b, 0, none⟩) (m + 1) cap) := (World.cell?_of_block (w := wq) (Below.heap_setCell _ _ _ _ (by simpa using hbb))).trans (by simp [World.cell?, hw3.trans hf])
          have ff2 : (wq.setCell ⟨b, i, none⟩ (.int .i64 (last : Int))).frozen? ⟨bf, 0, none⟩ = false := (World.frozen?_of_block (w := wq) (Below.heap_setCell _ _ _ _ (by simpa using hbb))).trans (by simp [World.frozen?, hw3.trans hf])
          go_wp2_with fail
          go_ret
          exact ⟨rfl, e0⟩
        · have HF := hst.2 hl
          have hl' : ¬ (last : Int) ≤ (y1 : Int) := by omega
          clear hst
          have b9 : (i : Int) < (m : Int) := by omega
          have ci := hh3.cell (i := i) (by omega)
          have fi := hh3.free i
          have HS : Hid (Hb _ _ _ _) := hh3.set (i := i) (by omega) y1
          go_wp2_with fail
          go_roundg f
          case measure => omega
          case rel => exact ⟨_, 2 * i + 1, f, rfl, by go_num, by simpa using hq, .inl hDm, by omega, HS.out, (hu3.setCell (by simp) _), (Below.heap_setCell _ _ _ _ (by simpa using hbb)).trans hw3, by rw [← HF]; exact hs⟩
end Go.Proofs.YbulkbhcsDoor
