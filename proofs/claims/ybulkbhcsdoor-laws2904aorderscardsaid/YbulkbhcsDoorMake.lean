import Derived.Test.YbulkbhcsDoorDead
import Derived.Laws.MakeOwn
import Derived.OwnWalk
namespace Go.Proofs.YbulkbhcsDoor
open Go.RowKit

theorem info3 : (Ybad.prog.info? 3).map (fun i => (i.zero, i.size, i.bytes)) = some (some (.int .i64 0), 1, 8) := by kernel_rfl
theorem info21 : (Ybad.prog.info? 21).map (fun i => (i.zero, i.size, i.bytes)) = some (some (.int .i32 0), 1, 4) := by kernel_rfl
theorem info71 : (Ybad.prog.info? 71).map (fun i => (i.zero, i.size, i.bytes)) = some (some (.int .u64 0), 1, 8) := by kernel_rfl
theorem info4 : (Ybad.prog.info? 4).map (fun i => (i.zero, i.size, i.bytes)) = some (some (.bool false), 1, 1) := by kernel_rfl
theorem info29 : (Ybad.prog.info? 29).map (fun i => (i.zero, i.size, i.bytes)) = some (some (.slice none 0 0), 1, 24) := by kernel_rfl

theorem made_rep (z : Value) (h : z.cells = #[z]) (n : Nat) : madeCells z.cells n = Array.replicate n z := by
  unfold madeCells
  rw [h]
  apply Array.ext
  · simp
  · intro i h1 h2
    simp [Nat.mod_one]

theorem mk_any {t e : TypeId} {z : Value} {by' : Nat} (ht : Ybad.prog.underlying t = some (.slice e)) (hi : (Ybad.prog.info? e).map (fun i => (i.zero, i.size, i.bytes)) = some (some z, 1, by')) (hb : by' ≤ 24) (h1 : z.cells = #[z]) (l c : Nat) (hlc : l ≤ c) (hc : c ≤ 7) (w : World) :
    (Instr.makeSlice t (.int .i64 l) (.int .i64 c)).run Ybad.prog w = .ok (.slice (some ⟨w.heap.size, 0, none⟩) l c) (w.alloc (.cells (Array.replicate c z) e)) := by
  obtain ⟨i, hi, hz, hs, hy⟩ := info_parts hi
  have h8 : by' * c ≤ 24 * 7 := Nat.mul_le_mul hb hc
  have h9 : (by' : Int) * (c : Int) ≤ 281474976710656 := by
    have h7 : ((by' * c : Nat) : Int) ≤ 281474976710656 := by omega
    rwa [Int.natCast_mul] at h7
  have := run_make (P := Ybad.prog) w t e i z ht hi hz .i64 .i64 l c (by omega) (by omega) (by rw [hy]; exact h9) (by omega)
  rw [this, hs, made_rep z h1]
  simp

theorem mk31 (n : Nat) (hn : n ≤ 7) : ∀ w, (Instr.makeSlice 31 (.int .i64 n) (.int .i64 n)).run Ybad.prog w = .ok (.slice (some ⟨w.heap.size, 0, none⟩) n n) (w.alloc (.cells (Array.replicate n (.int .i32 0)) 21)) :=
  mk_any Ybad.underlying31 info21 (by omega) rfl n n (Nat.le_refl _) hn
theorem mk29 (n : Nat) (hn : n ≤ 7) : ∀ w, (Instr.makeSlice 29 (.int .i64 n) (.int .i64 n)).run Ybad.prog w = .ok (.slice (some ⟨w.heap.size, 0, none⟩) n n) (w.alloc (.cells (Array.replicate n (.int .i64 0)) 3)) :=
  mk_any Ybad.underlying29 info3 (by omega) rfl n n (Nat.le_refl _) hn
theorem mk29z (n : Nat) (hn : n ≤ 7) : ∀ w, (Instr.makeSlice 29 (.int .i64 0) (.int .i64 n)).run Ybad.prog w = .ok (.slice (some ⟨w.heap.size, 0, none⟩) 0 n) (w.alloc (.cells (Array.replicate n (.int .i64 0)) 3)) :=
  fun w => mk_any Ybad.underlying29 info3 (by omega) rfl 0 n (by omega) hn w
theorem mk66 (n : Nat) (hn : n ≤ 7) : ∀ w, (Instr.makeSlice 66 (.int .i64 n) (.int .i64 n)).run Ybad.prog w = .ok (.slice (some ⟨w.heap.size, 0, none⟩) n n) (w.alloc (.cells (Array.replicate n (.bool false)) 4)) :=
  mk_any Ybad.underlying66 info4 (by omega) rfl n n (Nat.le_refl _) hn
theorem mk35 (n : Nat) (hn : n ≤ 7) : ∀ w, (Instr.makeSlice 35 (.int .i64 n) (.int .i64 n)).run Ybad.prog w = .ok (.slice (some ⟨w.heap.size, 0, none⟩) n n) (w.alloc (.cells (Array.replicate n (.slice none 0 0)) 29)) :=
  mk_any Ybad.underlying35 info29 (by omega) rfl n n (Nat.le_refl _) hn
theorem row_new (w : World) (n : Nat) (t : TypeId) (k : IntKind) : Row (w.alloc (.cells (Array.replicate n (.int k 0)) t)) w.heap.size t k (List.replicate n 0) := by
  unfold Row
  have : (List.map (Value.int k) (List.replicate n 0)).toArray = Array.replicate n (.int k 0) := by simp
  rw [this]
  show (w.heap.push _)[w.heap.size]? = _
  exact Array.getElem?_push_size
theorem row_rep {w : World} {b n : Nat} {t : TypeId} {k : IntKind} (h : w.heap[b]? = some (.cells (Array.replicate n (.int k 0)) t (0, 0))) : Row w b t k (List.replicate n 0) := by
  unfold Row
  have : (List.map (Value.int k) (List.replicate n 0)).toArray = Array.replicate n (.int k 0) := by simp
  rw [this]; exact h
theorem heap_new (w : World) (o : Obj) : (w.alloc o).heap[w.heap.size]? = some o := by
  show (w.heap.push _)[w.heap.size]? = _
  exact Array.getElem?_push_size
theorem four (w : World) (a b c d : Obj) :
    ((((w.alloc a).alloc b).alloc c).alloc d).drew.heap[w.heap.size]? = some a ∧ ((((w.alloc a).alloc b).alloc c).alloc d).drew.heap[w.heap.size + 1]? = some b ∧
    ((((w.alloc a).alloc b).alloc c).alloc d).drew.heap[w.heap.size + 1 + 1]? = some c ∧ ((((w.alloc a).alloc b).alloc c).alloc d).drew.heap[w.heap.size + 1 + 1 + 1]? = some d ∧
    Below w.heap.size w ((((w.alloc a).alloc b).alloc c).alloc d).drew := by
  have e1 : (w.alloc a).heap.size = w.heap.size + 1 := by simp
  have e2 : ((w.alloc a).alloc b).heap.size = w.heap.size + 1 + 1 := by simp
  have e3 : (((w.alloc a).alloc b).alloc c).heap.size = w.heap.size + 1 + 1 + 1 := by simp
  have q0 := heap_new w a
  have q1 := heap_new (w.alloc a) b
  have q2 := heap_new ((w.alloc a).alloc b) c
  have q3 := heap_new (((w.alloc a).alloc b).alloc c) d
  rw [e1] at q1
  rw [e2] at q2
  rw [e3] at q3
  refine ⟨?_, ?_, ?_, q3, ((((Below.refl _ _).alloc (Nat.le_refl _) _).alloc (by simp) _).alloc (by simp; omega) _).alloc (by simp; omega) _ |>.drew⟩
  · exact (Below.heap_alloc _ _ _ (by rw [e3]; omega)).trans ((Below.heap_alloc _ _ _ (by rw [e2]; omega)).trans ((Below.heap_alloc _ _ _ (by rw [e1]; omega)).trans q0))
  · exact (Below.heap_alloc _ _ _ (by rw [e3]; omega)).trans ((Below.heap_alloc _ _ _ (by rw [e2]; omega)).trans q1)
  · exact (Below.heap_alloc _ _ _ (by rw [e3]; omega)).trans q2
section
variable {w : World} {bd bp bx n d : Nat}
theorem Dead.lts (h : Dead w bd bp bx n d) : bd < w.heap.size ∧ bp < w.heap.size ∧ bx < w.heap.size := by
  obtain ⟨⟨hs, tr, h0, hb⟩, ⟨z1, r1, l1⟩, ⟨z2, r2, l2⟩, e1, e2, e3⟩ := h
  exact ⟨lt_of_block hb, r1.lt, r2.lt⟩
theorem Dead.setP (h : Dead w bd bp bx n d) (i : Nat) (x : Int) : Dead (w.setCell ⟨bp, i, none⟩ (.int .i32 x)) bd bp bx n d := by
  obtain ⟨⟨hs, tr, h0, hb⟩, ⟨z1, r1, l1⟩, ⟨z2, r2, l2⟩, e1, e2, e3⟩ := h
  exact ⟨⟨hs, tr, h0, (Below.heap_setCell _ _ _ _ (by simpa using e1)).trans hb⟩, ⟨_, r1.set i x, by simpa using l1⟩, ⟨_, r2.of_block (Below.heap_setCell _ _ _ _ (by simpa using Ne.symm e3)), l2⟩, e1, e2, e3⟩
theorem Dead.setX (h : Dead w bd bp bx n d) (i : Nat) (x : Int) : Dead (w.setCell ⟨bx, i, none⟩ (.int .i32 x)) bd bp bx n d := by
  obtain ⟨⟨hs, tr, h0, hb⟩, ⟨z1, r1, l1⟩, ⟨z2, r2, l2⟩, e1, e2, e3⟩ := h
  exact ⟨⟨hs, tr, h0, (Below.heap_setCell _ _ _ _ (by simpa using e2)).trans hb⟩, ⟨_, r1.of_block (Below.heap_setCell _ _ _ _ (by simpa using e3)), l1⟩, ⟨_, r2.set i x, by simpa using l2⟩, e1, e2, e3⟩
theorem Dead.cells (h : Dead w bd bp bx n d) :
    w.cell? ⟨bd, 1, none⟩ = some (.slice (some ⟨bp, 0, none⟩) n n) ∧ w.cell? ⟨bd, 5, none⟩ = some (.slice (some ⟨bx, 0, none⟩) (n + 1 : Nat) (n + 1 : Nat)) ∧
    (∀ i, i < n → ∃ v, w.cell? ⟨bp, i, none⟩ = some (.int .i32 v)) ∧ (∀ i, w.frozen? ⟨bp, i, none⟩ = false) ∧
    (∀ i, i < n + 1 → ∃ v, w.cell? ⟨bx, i, none⟩ = some (.int .i32 v)) ∧ (∀ i, w.frozen? ⟨bx, i, none⟩ = false) := by
  obtain ⟨⟨hs, tr, h0, hb⟩, ⟨z1, r1, l1⟩, ⟨z2, r2, l2⟩, e1, e2, e3⟩ := h
  exact ⟨by simp [World.cell?, hb], by simp [World.cell?, hb], fun i hi => ⟨_, r1.cell (by omega)⟩, r1.free, fun i hi => ⟨_, r2.cell (by omega)⟩, r2.free⟩
end

set_option maxHeartbeats 1000000 in
set_option maxRecDepth 100000 in
theorem newDead_ok (w : World) (n : Nat) (hn : n ≤ 6) (h1 : 1 ≤ n) :
    Calls Ybad.prog 31 #[.int .i64 n, .func (.func 23) #[] #[]] w fun e w' => ∃ bd bp bx, e = .returned (.pointer (some ⟨bd, 0, none⟩)) ∧ Dead w' bd bp bx n 0 ∧ Below w.heap.size w w' ∧ w.heap.size ≤ bd ∧ w.heap.size ≤ bp ∧ w.heap.size ≤ bx := by
  have m1 := mk31 n (by omega)
  have m2 := mk31 (n + 1) (by omega)
  simp only [Int.natCast_add, Int.cast_ofNat_Int] at m2
  go_enter Ybad.func31, Ybad.ntmps31
  go_upto_region 1 with fail
  go_cut [5] from 8 to 45 (fun s5 wd => ∃ bd bp bx, s5 = .pointer (some ⟨bd, 0, none⟩) ∧ Dead wd bd bp bx n 0 ∧ Below w.heap.size w wd ∧ w.heap.size ≤ bd ∧ w.heap.size ≤ bp ∧ w.heap.size ≤ bx)
  case first =>
    go_region
    all_goals go_wp2_with fail
    all_goals go_meet
    all_goals go_light
    all_goals
      first
        | exact ⟨_, _, _, rfl, ⟨⟨_, _, rfl, (four w _ _ _ _).2.2.2.1⟩, ⟨_, row_rep (four w _ _ _ _).1, by simp⟩, ⟨_, row_rep (four w _ _ _ _).2.1, by simp⟩, by omega, by omega, by omega⟩, (four w _ _ _ _).2.2.2.2, by omega, by omega, by omega⟩
        | exact ⟨_, _, _, rfl, ⟨⟨_, _, rfl, (four w _ _ _ _).2.2.2.1⟩, ⟨_, row_rep (four w _ _ _ _).1, by simp⟩, ⟨_, row_rep (four w _ _ _ _).2.2.1, by simp⟩, by omega, by omega, by omega⟩, (four w _ _ _ _).2.2.2.2, by omega, by omega, by omega⟩
        | exact ⟨_, _, _, rfl, ⟨⟨_, _, rfl, (four w _ _ _ _).2.2.2.1⟩, ⟨_, row_rep (four w _ _ _ _).2.1, by simp⟩, ⟨_, row_rep (four w _ _ _ _).1, by simp⟩, by omega, by omega, by omega⟩, (four w _ _ _ _).2.2.2.2, by omega, by omega, by omega⟩
        | exact ⟨_, _, _, rfl, ⟨⟨_, _, rfl, (four w _ _ _ _).2.2.2.1⟩, ⟨_, row_rep (four w _ _ _ _).2.1, by simp⟩, ⟨_, row_rep (four w _ _ _ _).2.2.1, by simp⟩, by omega, by omega, by omega⟩, (four w _ _ _ _).2.2.2.2, by omega, by omega, by omega⟩
        | exact ⟨_, _, _, rfl, ⟨⟨_, _, rfl, (four w _ _ _ _).2.2.2.1⟩, ⟨_, row_rep (four w _ _ _ _).2.2.1, by simp⟩, ⟨_, row_rep (four w _ _ _ _).1, by simp⟩, by omega, by omega, by omega⟩, (four w _ _ _ _).2.2.2.2, by omega, by omega, by omega⟩
        | exact ⟨_, _, _, rfl, ⟨⟨_, _, rfl, (four w _ _ _ _).2.2.2.1⟩, ⟨_, row_rep (four w _ _ _ _).2.2.1, by simp⟩, ⟨_, row_rep (four w _ _ _ _).2.1, by simp⟩, by omega, by omega, by omega⟩, (four w _ _ _ _).2.2.2.2, by omega, by omega, by omega⟩
  case rest =>
    obtain ⟨bd, bp, bx, rfl, hd, hb, g1, g2, g3⟩ := hcut
    have c1 := hd.cells.1
    go_wp2_with fail
    clear c1
    go_loopg [23] n (fun g s23 wr => ∃ k : Nat, k ≤ n ∧ g = n - k ∧ s23 = .int .i64 k ∧ Dead wr bd bp bx n 0 ∧ Below w.heap.size w wr)
    case atStart => exact ⟨0, by omega, by omega, rfl, hd, hb⟩
    case round =>
      obtain ⟨k, hk, rfl, rfl, hd2, hb2⟩ := hrel
      clear hd hb
      by_cases hlt : k < n
      · obtain ⟨c1, _, c3, f3, _⟩ := hd2.cells
        obtain ⟨x, c3⟩ := c3 k hlt
        replace f3 := f3 k
        have b1 : (k : Int) < (n : Int) := by omega
        go_wp2_with fail
        go_roundg (n - (k + 1))
        case measure => omega
        case rel => exact ⟨k + 1, by omega, rfl, by go_num, hd2.setP k _, hb2.setCell g2 _⟩
      · obtain rfl : k = n := by omega
        go_wp2_with fail
        go_loopg [7] k (fun g s7 wr => ∃ j : Nat, 1 ≤ j ∧ j ≤ k + 1 ∧ g = k + 1 - j ∧ s7 = .int .i64 j ∧ Dead wr bd bp bx k 0 ∧ Below w.heap.size w wr)
        case atStart => exact ⟨1, by omega, by omega, by omega, rfl, hd2, hb2⟩
        case round =>
          obtain ⟨j, hj1, hj2, rfl, rfl, hd3, hb3⟩ := hrel
          clear hd2 hb2
          by_cases hlt2 : j ≤ k
          · obtain ⟨_, c1, _, _, c3, f3⟩ := hd3.cells
            obtain ⟨x, c3⟩ := c3 j (by omega)
            replace f3 := f3 j
            have b1 : (j : Int) < (k : Int) + 1 := by omega
            have b2 : (j : Int) ≤ (k : Int) := by omega
            go_wp2_with fail
            go_roundg (k + 1 - (j + 1))
            case measure => omega
            case rel => exact ⟨j + 1, by omega, by omega, rfl, by go_num, hd3.setX j _, hb3.setCell g3 _⟩
          · have b2 : ¬ (j : Int) ≤ (k : Int) := by omega
            go_wp2_with fail
            go_ret
            exact ⟨bd, rfl, bp, bx, hd3, hb3, g1, g2, g3⟩
end Go.Proofs.YbulkbhcsDoor
