import Derived.Test.YbulkbhcsDoorEq
namespace Go.Proofs.YbulkbhcsDoor
open Go.RowKit
/-- The transactions at the nodes p. -/
def txs (zs : List Int) (p : List Nat) : List Int := p.map (fun v => zs.getD v 0)
theorem txs_len (zs : List Int) (p : List Nat) : (txs zs p).length = p.length := by simp [txs]
/-- The first k are laid. -/
def fill (ys : List Int) (k : Nat) : List Int := ys.take k ++ List.replicate (ys.length - k) 0
theorem fill_len {ys : List Int} {k : Nat} (h : k ≤ ys.length) : (fill ys k).length = ys.length := by simp [fill]; omega
theorem fill_zero (ys : List Int) : fill ys 0 = List.replicate ys.length 0 := by simp [fill]
theorem fill_all (ys : List Int) : fill ys ys.length = ys := by simp [fill]
theorem fill_succ {ys : List Int} {k : Nat} (h : k < ys.length) : (fill ys k).set k (ys.getD k 0) = fill ys (k + 1) := by
  unfold fill
  have e : ys.length - k = (ys.length - (k + 1)) + 1 := by omega
  have t : ys.take (k + 1) = ys.take k ++ [ys[k]] := by rw [List.take_add_one, List.getElem?_eq_getElem h]; rfl
  rw [List.set_append_right _ _ (by simp; omega), e, List.replicate_succ, List.getD_eq_getElem?_getD, List.getElem?_eq_getElem h]
  simp [Nat.min_eq_left (Nat.le_of_lt h)]
  rw [t, List.append_assoc]
  rfl
set_option maxHeartbeats 1000000 in
set_option maxRecDepth 100000 in
theorem txnsAt_ok (w : World) (bG bt bo n ct co : Nat) (zs : List Int) (p : List Nat) (hz : zs.length = n) (h6 : n ≤ 6) (hp : p.length = n) (hlt : ∀ v ∈ p, v < n)
    (hG : w.cell? ⟨bG, 0, none⟩ = some (.slice (some ⟨bt, 0, none⟩) n ct)) (hT : ∀ i, i < n → w.cell? ⟨bt, i, none⟩ = some (.int .i64 (zs.getD i 0)))
    (hO : ∀ i, i < n → w.cell? ⟨bo, i, none⟩ = some (.int .i64 ((p.getD i 0 : Nat) : Int))) :
    Calls Ybad.prog 16 #[.pointer (some ⟨bG, 0, none⟩), .slice (some ⟨bo, 0, none⟩) n co] w fun e w' => ∃ g, e = .returned (.slice (some ⟨g, 0, none⟩) n n) ∧ w.heap.size ≤ g ∧ Row w' g 3 .i64 (txs zs p) ∧ Below w.heap.size w w' := by
  have he := eql29
  have m1 := mk29 n (by omega)
  go_enter Ybad.func16, Ybad.ntmps16
  go_wp2_with fail
  have hr0 := row_new w n 3 .i64
  have hb0 : Below w.heap.size w (w.alloc (.cells (Array.replicate n (.int .i64 0)) 3)) := (Below.refl _ _).alloc (Nat.le_refl _) _
  have hyl := txs_len zs p
  rw [hp] at hyl
  rw [← hyl, ← fill_zero] at hr0
  rw [hyl] at hr0
  obtain ⟨bi, hbi⟩ : ∃ bi, w.heap.size = bi := ⟨_, rfl⟩
  rw [hbi] at hr0 hb0
  simp only [hbi]
  generalize w.alloc (.cells (Array.replicate n (.int .i64 0)) 3) = w1 at *
  clear m1
  go_loopg [15] n (fun gh s15 wr => ∃ k : Nat, k ≤ n ∧ gh = n - k ∧ s15 = .int .i64 k ∧ Row wr bi 3 .i64 (fill (txs zs p) k) ∧ Below bi w wr)
  case atStart => exact ⟨0, by omega, by omega, rfl, hr0, hb0⟩
  case round =>
    obtain ⟨k, hk, rfl, rfl, hr, hb⟩ := hrel
    clear hr0 hb0
    have hgl := World.block_lt_of_cell? w _ hG
    dsimp only at hgl
    by_cases hlt2 : k < n
    · have hv := hlt (p.getD k 0) (by rw [List.getD_eq_getElem?_getD, List.getElem?_eq_getElem (by omega)]; exact List.getElem_mem _)
      have hy : (txs zs p).getD k 0 = zs.getD (p.getD k 0) 0 := by
        simp [txs, List.getD_eq_getElem?_getD, List.getElem?_eq_getElem (show k < p.length by omega)]
      have o1 := hO k hlt2
      have t1 := hT _ hv
      have hol := World.block_lt_of_cell? w _ o1
      have htl := World.block_lt_of_cell? w _ t1
      dsimp only at hol htl
      have o2 := (hb.cell (p := ⟨bo, k, none⟩) (by show bo < bi; omega)).trans o1
      have t2 := (hb.cell (p := ⟨bt, p.getD k 0, none⟩) (by show bt < bi; omega)).trans t1
      have G2 := (hb.cell (p := ⟨bG, 0, none⟩) (by show bG < bi; omega)).trans hG
      have hset := hr.set k ((txs zs p).getD k 0)
      rw [fill_succ (by omega), hy] at hset
      have HS : Hid (Row _ _ _ _ _) := hset
      have hrc := hr.cell (i := k) (by rw [fill_len (by omega)]; omega)
      have hrf := hr.free k
      clear hset o1 t1 hy
      generalize p.getD k 0 = v at *
      generalize zs.getD v 0 = y at *
      generalize (fill (txs zs p) k).getD k 0 = y0 at *
      have b1 : (k : Int) < (n : Int) := by omega
      have b2 : (v : Int) < (n : Int) := by omega
      go_wp2_with fail
      go_roundg (n - (k + 1))
      case measure => omega
      case rel => exact ⟨k + 1, by omega, rfl, by go_num, HS.out, hb.setCell (Nat.le_refl _) _⟩
    · obtain rfl : k = n := by omega
      go_wp2_with fail
      go_ret
      rw [← hyl, fill_all] at hr
      exact ⟨bi, rfl, by omega, hr, by rw [hbi]; exact hb⟩
end Go.Proofs.YbulkbhcsDoor
