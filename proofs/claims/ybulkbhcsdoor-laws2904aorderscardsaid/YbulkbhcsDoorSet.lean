import Derived.Test.YbulkbhcsDoorMake
import Derived.Deep.RegionLawGrows
namespace Go.Proofs.YbulkbhcsDoor
open Go.RowKit

theorem info75 : (Ybad.prog.info? 75).map (fun i => (i.zero, i.size, i.bytes)) = some (some (.slice none 0 0), 1, 24) := by kernel_rfl
theorem owns_one {w' : World} {base : Nat} {e : TypeId} {v x : Value} (h : w'.ownsRow base e 1 v 1 [x]) : ∃ g cap, v = .slice (some ⟨g, 0, none⟩) 1 cap ∧ base ≤ g ∧ w'.cell? ⟨g, 0, none⟩ = some x := by
  obtain ⟨_, h1 | ⟨g, cap, cur, hv, hg, hh, _, _, hsz, ht⟩⟩ := h
  · simp at h1
  · refine ⟨g, cap, hv, hg, ?_⟩
    have : cur.toList[0]? = some x := by
      have h2 : (cur.toList.take (1 * 1))[0]? = some x := by rw [ht]; rfl
      rw [List.getElem?_take] at h2
      simpa using h2
    simp [World.cell?, hh]
    simpa using this
theorem three_grown (w w' : World) (a b c : Obj) (h : (((w.alloc a).alloc b).alloc c).drew.grownBy w' none) :
    w'.heap[w.heap.size]? = some a ∧ w'.heap[w.heap.size + 1]? = some b ∧ Below w.heap.size w w' ∧ w.heap.size + 3 ≤ w'.heap.size := by
  have e1 : (w.alloc a).heap.size = w.heap.size + 1 := by simp
  have e2 : ((w.alloc a).alloc b).heap.size = w.heap.size + 1 + 1 := by simp
  have e3 : (((w.alloc a).alloc b).alloc c).drew.heap.size = w.heap.size + 1 + 1 + 1 := by
    show (((w.alloc a).alloc b).alloc c).heap.size = _
    simp
  have q0 := heap_new w a
  have q1 := heap_new (w.alloc a) b
  rw [e1] at q1
  have hs := h.size
  rw [e3] at hs
  refine ⟨?_, ?_, ((((Below.refl _ _).alloc (Nat.le_refl _) _).alloc (by simp) _).alloc (by simp; omega) _).drew.grown h (by rw [e3]; omega) (by simp), by omega⟩
  · exact (h.block _ (by rw [e3]; omega) (by simp)).trans ((Below.heap_alloc _ _ _ (by rw [e2]; omega)).trans ((Below.heap_alloc _ _ _ (by rw [e1]; omega)).trans q0))
  · exact (h.block _ (by rw [e3]; omega) (by simp)).trans ((Below.heap_alloc _ _ _ (by rw [e2]; omega)).trans q1)
theorem news_cell (w : World) (x : Value) (t : TypeId) (j : Nat) (u : Value) (h : [x][j]? = some u) : (w.alloc (.cells #[x] t)).drew.cell? ((⟨w.heap.size, 0, none⟩ : Addr).add j) = some u := by
  cases j with
  | zero =>
    simp at h
    subst h
    have h := heap_new w (.cells #[x] t)
    show (w.alloc (.cells #[x] t)).cell? ⟨w.heap.size, 0, none⟩ = _
    unfold World.cell?
    dsimp only
    rw [h]
    rfl
  | succ j => simp at h
theorem mk75 (w : World) : (Instr.makeSlice 75 (.int .i64 1) (.int .i64 1)).run Ybad.prog w = .ok (.slice (some ⟨w.heap.size, 0, none⟩) 1 1) (w.alloc (.cells #[.int .u64 0] 71)) :=
  mk_any Ybad.underlying75 info71 (by omega) rfl 1 1 (Nat.le_refl _) (by omega) w
theorem ns_done {w w' : World} {g cap : Nat} {v : Value} (p1 : w'.heap[w.heap.size + 1]? = some (.cells #[.int .u64 0] 71)) (p2 : Below w.heap.size w w')
    (hg : w.heap.size + 1 + 1 + 1 ≤ g) (hc : w'.cell? ⟨g, 0, none⟩ = some (.slice (some ⟨w.heap.size + 1, 0, none⟩) 1 1)) (k0 : w'.cell? ⟨w.heap.size, 0, none⟩ = some v) :
    ∃ bs bl bw cap_1, Ending.returned (.pointer (some ⟨w.heap.size, 0, none⟩)) = Ending.returned (.pointer (some ⟨bs, 0, none⟩)) ∧ NS (w'.setCell ⟨w.heap.size, 0, none⟩ (.slice (some ⟨g, 0, none⟩) 1 cap)) bs bl bw cap_1 0 ∧
      Below w.heap.size w (w'.setCell ⟨w.heap.size, 0, none⟩ (.slice (some ⟨g, 0, none⟩) 1 cap)) ∧ w.heap.size ≤ bs ∧ w.heap.size ≤ bl ∧ w.heap.size ≤ bw ∧ bs ≠ bw ∧ bl ≠ bw := by
  refine ⟨w.heap.size, g, w.heap.size + 1, cap, rfl, ⟨World.cell?_setCell_same' _ _ _ (by rw [k0]; rfl), ?_, ?_⟩, p2.setCell (Nat.le_refl _) _, Nat.le_refl _, by omega, by omega, by omega, by omega⟩
  · exact (World.cell?_of_block (w := w') (Below.heap_setCell _ _ _ _ (by show g ≠ w.heap.size; omega))).trans hc
  · exact (Below.heap_setCell _ _ _ _ (by show w.heap.size + 1 ≠ w.heap.size; omega)).trans p1
set_option maxHeartbeats 1000000 in
set_option maxRecDepth 100000 in
theorem newNS_ok (w : World) (n : Nat) (hn : n ≤ 6) (h1 : 1 ≤ n) :
    Calls Ybad.prog 24 #[.int .i64 n] w fun e w' => ∃ bs bl bw cap, e = .returned (.pointer (some ⟨bs, 0, none⟩)) ∧ NS w' bs bl bw cap 0 ∧ Below w.heap.size w w' ∧ w.heap.size ≤ bs ∧ w.heap.size ≤ bl ∧ w.heap.size ≤ bw ∧ bs ≠ bw ∧ bl ≠ bw := by
  have m1 := mk75
  have q1 : IntKind.i64.wrap ((n : Int) + 63) = (n : Int) + 63 := by rw [IntKind.wrap_i64]; omega
  have q2 : Int.tdiv ((n : Int) + 63) 64 = 1 := by
    rw [Int.tdiv_eq_ediv_of_nonneg (by omega)]; omega
  obtain ⟨i0, hi, hz0, hz1, hz2⟩ := info_parts info75
  have Hi : Hid (Ybad.prog.info? 75 = some i0) := hi
  have Hz0 : Hid (_ = _) := hz0
  have Hz1 : Hid (_ = _) := hz1
  have Hz2 : Hid (_ = _) := hz2
  clear hi hz0 hz1 hz2
  go_enter Ybad.func24, Ybad.ntmps24
  go_wp2_with fail
  go_loopg [4] 1 (fun g s4 wr => s4 = .int .i64 1 ∧ wr = w.alloc (.cells #[.slice none 0 0] 74))
  case atStart => exact ⟨rfl, rfl⟩
  case round =>
    obtain ⟨rfl, rfl⟩ := hrel
    go_upto_region 4 with fail
    have hc2 := news_cell ((w.alloc (.cells #[.slice none 0 0] 74)).alloc (.cells #[.int .u64 0] 71)) (.slice (some ⟨w.heap.size + 1, 0, none⟩) 1 1) 75
    simp only [World.size_alloc] at hc2
    have Hc2 : Hid (∀ j u, _ → _) := hc2
    clear hc2
    go_region_law (refine step_append_grows rfl (.tmp 17) (.tmp 21) 72 rfl 75 i0 _ 1 24 Ybad.underlying72 Hi.out Hz0.out Hz1.out Hz2.out rfl (by decide) none 0 0 [] rfl (fun _ => ⟨rfl, rfl⟩) rfl (by simp) ⟨w.heap.size + 1 + 1, 0, none⟩ 1 1 [.slice (some ⟨w.heap.size + 1, 0, none⟩) 1 1] rfl rfl Hc2.out (by simp [Value.oneCell']) (by omega) (by decide) (by decide) ?_; intro v' w' hown hgrow; obtain ⟨g, cap, rfl, hg, hcell⟩ := owns_one hown; obtain ⟨p0, p1, p2, p3⟩ := three_grown _ _ _ _ _ hgrow; have k0 : w'.cell? ⟨w.heap.size, 0, none⟩ = some (.slice none 0 0) := (by simp [World.cell?, p0]); have k1 : w'.frozen? ⟨w.heap.size, 0, none⟩ = false := (by simp [World.frozen?, p0]); clear hown; have HG : Hid (_ ≤ _) := hg; clear hg; have Hgr : Hid (World.grownBy _ _ _) := hgrow; clear hgrow)
    all_goals go_wp2_with fail
    all_goals go_ret
    all_goals exact ns_done p1 p2 (by simpa using HG.out) hcell k0
end Go.Proofs.YbulkbhcsDoor
