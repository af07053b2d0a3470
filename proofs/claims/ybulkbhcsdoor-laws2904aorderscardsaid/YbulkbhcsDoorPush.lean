import Derived.Test.YbulkbhcsDoorApp
namespace Go.Proofs.YbulkbhcsDoor
open Go.RowKit

theorem lift_stop0 {v f : Nat} {q : List Nat} : lift v f q 0 = (q, 0) := by
  cases f with
  | zero => rfl
  | succ f => rw [lift, if_pos rfl]
theorem lift_step {v f i : Nat} {q : List Nat} (h : i ≠ 0) {y : Nat} (hy : q.getD ((i - 1) / 2) 0 = y) :
    (y ≤ v → lift v (f + 1) q i = (q, i)) ∧ (¬ y ≤ v → lift v (f + 1) q i = lift v f (q.set i y) ((i - 1) / 2)) := by
  constructor
  · intro hl
    rw [lift, if_neg h, hy, if_pos hl]
  · intro hl
    rw [lift, if_neg h, hy, if_neg hl]
theorem Upd.setNew {S : List Nat} {a b : World} (h : Upd S a b) {p : Addr} (hp : p.block ∈ S ∨ a.heap.size ≤ p.block) (u : Value) : Upd S a (b.setCell p u) :=
  ⟨h.os, h.tape, h.output, by have := h.size; simpa using this, fun k hk hs => (Below.heap_setCell _ _ _ _ (fun e => by rcases hp with hp | hp; exact hs (by rw [e]; exact hp); omega)).trans (h.same k hk hs)⟩
/-- Behind the push's last stores. -/
theorem push_done {w wr : World} {bf b' cap' m i v : Nat} {h q S : List Nat} {u : Value} (hbb : bf ≠ b') (hm : cap' ≤ maxLen) (hf : wr.heap[bf]? = some (.cells #[u] 60 (0, 0)))
    (HP : pushF h v = q.set i v) (hq : q.length = m + 1) (hi : i ≤ m) (hh : Hb wr b' cap' q) (hu : Upd S w wr) (hS : bf ∈ S) (hb' : b' ∈ S ∨ w.heap.size ≤ b') :
    HpAt ((wr.setCell ⟨b', i, none⟩ (.int .i64 (v : Int))).setCell ⟨bf, 0, none⟩ (.slice (some ⟨b', 0, none⟩) (m + 1) cap')) bf b' (pushF h v) ∧ Upd S w ((wr.setCell ⟨b', i, none⟩ (.int .i64 (v : Int))).setCell ⟨bf, 0, none⟩ (.slice (some ⟨b', 0, none⟩) (m + 1) cap')) := by
  rw [HP]
  refine ⟨⟨hbb, .inr ⟨cap', ?_, hm, ?_⟩⟩, (hu.setNew hb' _).setCell hS _⟩
  · refine (heap_set ((Below.heap_setCell _ _ _ _ (by simpa using hbb)).trans hf) _).trans ?_
    simp [hq]
  · exact (hh.set (by omega) v).of_block (Below.heap_setCell _ _ _ _ (by simpa using Ne.symm hbb))
theorem HpAt.form {w : World} {bf b : Nat} {h : List Nat} (hp : HpAt w bf b h) : ∃ v cap, w.heap[bf]? = some (.cells #[v] 60 (0, 0)) ∧ ((v = .slice none 0 0 ∧ h = []) ∨ (v = .slice (some ⟨b, 0, none⟩) h.length cap ∧ cap ≤ maxLen ∧ Hb w b cap h)) := by
  obtain ⟨_, ⟨h1, h2⟩ | ⟨cap, h1, h2, h3⟩⟩ := hp
  · exact ⟨_, 0, h1, .inl ⟨rfl, h2⟩⟩
  · exact ⟨_, cap, h1, .inr ⟨rfl, h2, h3⟩⟩

set_option maxHeartbeats 1000000 in
set_option maxRecDepth 100000 in
theorem push_ok (w : World) (bf b : Nat) (h : List Nat) (v : Nat) (h6 : h.length < 6) (hp : HpAt w bf b h) :
    Calls Ybad.prog 21 #[.pointer (some ⟨bf, 0, none⟩), .int .i64 v] w fun e w' => (∃ x, e = .returned x) ∧ ∃ b', (b' = b ∨ w.heap.size ≤ b') ∧ HpAt w' bf b' (pushF h v) ∧ Upd [bf, b] w w' := by
  have hbb := hp.1
  obtain ⟨sv, cap, hf, hsv⟩ := hp.form
  have hfl := lt_of_block hf
  have cf : w.cell? ⟨bf, 0, none⟩ = some sv := by simp [World.cell?, hf]
  obtain ⟨m, hlen⟩ : ∃ m, h.length = m := ⟨_, rfl⟩
  have HP : Hid (pushF h v = (lift v 7 (h ++ [v]) m).1.set (lift v 7 (h ++ [v]) m).2 v) := by
    show pushF h v = _
    unfold pushF
    rw [hlen]
  have hA : (sv = .slice none 0 0 ∧ h = []) ∨ (sv = .slice (some ⟨b, 0, none⟩) h.length cap ∧ cap ≤ maxLen ∧ Hb (w.alloc (.cells #[.int .i64 (v : Int)] 3)) b cap h) := by
    rcases hsv with h1 | ⟨h1, h2, h3⟩
    · exact .inl h1
    · exact .inr ⟨h1, h2, h3.of_block (Below.heap_alloc _ _ _ h3.lt)⟩
  have hB : (w.alloc (.cells #[.int .i64 (v : Int)] 3)).cell? ⟨w.heap.size, 0, none⟩ = some (.int .i64 (v : Int)) := by
    have := heap_new w (.cells #[.int .i64 (v : Int)] 3)
    unfold World.cell?
    dsimp only
    rw [this]
    rfl
  have HA : Hid (_ ∨ _) := hA
  have HB : Hid (_ = _) := hB
  have HBF : Hid ((w.alloc (.cells #[.int .i64 (v : Int)] 3)).heap[bf]? = some (.cells #[sv] 60 (0, 0))) := (Below.heap_alloc _ _ _ hfl).trans hf
  clear hA hB hsv hp
  go_enter Ybad.func21, Ybad.ntmps21
  go_wp2_with (refine wpList_push rfl (.tmp 9) (.tmp 11) 60 Ybad.underlying60 rfl sv rfl b cap h HA.out w.heap.size rfl v HB.out (by omega) ?_; intro b' cap' w1 k1 k2 k3 k4 _)
  rw [World.size_alloc] at k3
  have hbb' : bf ≠ b' := by omega
  have hb2 : b' ∈ [bf, b] ∨ w.heap.size ≤ b' := by
    rcases k3 with rfl | k3
    · exact .inl (by simp)
    · exact .inr (by omega)
  have hb3 : b' = b ∨ w.heap.size ≤ b' := by omega
  have hw1 : w1.heap[bf]? = some (.cells #[sv] 60 (0, 0)) := (k4.same bf (by simp; omega) (by simpa using hbb)).trans HBF.out
  have hu1 : Upd [bf, b] w w1 := ((Upd.refl _ _).alloc _).trans (k4.mono (by simp))
  clear k3 k4 HA HB HBF cf
  go_loopg [5] 7 (fun gh s5 wr => ∃ (q : List Nat) (i G : Nat), gh = G ∧ s5 = .int .i64 i ∧ q.length = m + 1 ∧ i ≤ m ∧ i ≤ G ∧ Hb wr b' cap' q ∧ Upd [bf, b] w wr ∧ wr.heap[bf]? = some (.cells #[sv] 60 (0, 0)) ∧ lift v G q i = lift v 7 (h ++ [v]) m)
  case atStart => exact ⟨h ++ [v], m, 7, rfl, by first | rfl | go_num, by simp [hlen], by omega, by omega, k2, hu1, hw1, rfl⟩
  case round =>
    obtain ⟨q, i, G, hG, rfl, hq, hi, hfu, hh2, hu, hw, hs⟩ := hrel
    clear k2 hw1 hu1
    by_cases h0 : i = 0
    · subst h0
      have hfin : pushF h v = q.set 0 v := by rw [HP.out, ← hs, lift_stop0]
      have hd := push_done (h := h) (i := 0) (v := v) hbb' k1 hw hfin hq hi hh2 hu (by simp) hb2
      have ci := hh2.cell (i := 0) (by omega)
      have fi := hh2.free 0
      have b9 : (0 : Int) < (m : Int) + 1 := by omega
      have cf2 : (wr.setCell ⟨b', 0, none⟩ (.int .i64 (v : Int))).cell? ⟨bf, 0, none⟩ = some sv := (World.cell?_of_block (w := wr) (Below.heap_setCell _ _ _ _ (by simpa using hbb'))).trans (by simp [World.cell?, hw])
      have ff2 : (wr.setCell ⟨b', 0, none⟩ (.int .i64 (v : Int))).frozen? ⟨bf, 0, none⟩ = false := (World.frozen?_of_block (w := wr) (Below.heap_setCell _ _ _ _ (by simpa using hbb'))).trans (by simp [World.frozen?, hw])
      clear hfin
      go_wp2_with fail
      go_end0
      exact ⟨⟨_, rfl⟩, b', hb3, hd⟩
    · obtain ⟨f, rfl⟩ : ∃ f, G = f + 1 := ⟨G - 1, by omega⟩
      obtain ⟨y, hy⟩ : ∃ y, q.getD ((i - 1) / 2) 0 = y := ⟨_, rfl⟩
      have hst := lift_step (v := v) (f := f) h0 hy
      have cu := hh2.cell (i := (i - 1) / 2) (by omega)
      rw [hy] at cu
      have b8 : (0 : Int) < (i : Int) := by omega
      obtain ⟨p, hp⟩ : ∃ p : Nat, (i - 1) / 2 = p := ⟨_, rfl⟩
      rw [hp] at cu hst hy
      have hpi : Int.tdiv ((i : Int) - 1) 2 = (p : Int) := by
        rw [Int.tdiv_eq_ediv_of_nonneg (by omega)]; omega
      have b7 : (p : Int) < (m : Int) + 1 := by omega
      have b6 : (i : Int) < (m : Int) + 1 := by omega
      by_cases hl : y ≤ v
      · have hl' : (y : Int) ≤ (v : Int) := by omega
        have hfin : pushF h v = q.set i v := by rw [HP.out, ← hs, hst.1 hl]
        clear hst
        have hd := push_done (h := h) (i := i) (v := v) hbb' k1 hw hfin hq hi hh2 hu (by simp) hb2
        have ci := hh2.cell (i := i) (by omega)
        have fi := hh2.free i
        have b9 : (i : Int) < (m : Int) + 1 := by omega
        have cf2 : (wr.setCell ⟨b', i, none⟩ (.int .i64 (v : Int))).cell? ⟨bf, 0, none⟩ = some sv := (World.cell?_of_block (w := wr) (Below.heap_setCell _ _ _ _ (by simpa using hbb'))).trans (by simp [World.cell?, hw])
        have ff2 : (wr.setCell ⟨b', i, none⟩ (.int .i64 (v : Int))).frozen? ⟨bf, 0, none⟩ = false := (World.frozen?_of_block (w := wr) (Below.heap_setCell _ _ _ _ (by simpa using hbb'))).trans (by simp [World.frozen?, hw])
        clear hfin
        go_wp2_with fail
        go_end0
        exact ⟨⟨_, rfl⟩, b', hb3, hd⟩
      · have hl' : ¬ (y : Int) ≤ (v : Int) := by omega
        have HF := hst.2 hl
        clear hst
        have ci := hh2.cell (i := i) (by omega)
        have fi := hh2.free i
        have HS : Hid (Hb _ _ _ _) := hh2.set (i := i) (by omega) y
        go_wp2_with fail
        go_roundg f
        case measure => omega
        case rel => exact ⟨_, p, f, rfl, by go_num, by simpa using hq, by omega, by omega, HS.out, hu.setNew (by simpa using hb2) _, (Below.heap_setCell _ _ _ _ (by simpa using hbb')).trans hw, by rw [← HF]; exact hs⟩
end Go.Proofs.YbulkbhcsDoor
