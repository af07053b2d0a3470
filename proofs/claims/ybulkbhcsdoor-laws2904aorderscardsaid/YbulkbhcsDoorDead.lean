import Derived.Test.YbulkbhcsDoorMem
import Derived.Deep.RegionWith
namespace Go.Proofs.YbulkbhcsDoor
open Go.RowKit

/-- Of the blocks that lay in w, those of S alone may have turned. -/
structure Upd (S : List Nat) (w w' : World) : Prop where
  os : w'.os = w.os
  tape : w'.tape = w.tape
  output : w'.output = w.output
  size : w.heap.size ≤ w'.heap.size
  same : ∀ k, k < w.heap.size → k ∉ S → w'.heap[k]? = w.heap[k]?
section
variable {S T : List Nat} {a b c w w' : World}
theorem Upd.refl (S : List Nat) (w : World) : Upd S w w := ⟨rfl, rfl, rfl, Nat.le_refl _, fun _ _ _ => rfl⟩
theorem Upd.trans (h : Upd S a b) (k : Upd S b c) : Upd S a c :=
  ⟨k.os.trans h.os, k.tape.trans h.tape, k.output.trans h.output, Nat.le_trans h.size k.size, fun i hi hs => (k.same i (Nat.lt_of_lt_of_le hi h.size) hs).trans (h.same i hi hs)⟩
theorem Upd.mono (h : Upd S a b) (hs : ∀ k, k ∈ S → k ∈ T) : Upd T a b := ⟨h.os, h.tape, h.output, h.size, fun k hk ht => h.same k hk (fun x => ht (hs k x))⟩
theorem Upd.drew (h : Upd S a b) : Upd S a b.drew := ⟨h.os, h.tape, h.output, h.size, h.same⟩
theorem Upd.setCell (h : Upd S a b) {p : Addr} (hp : p.block ∈ S) (u : Value) : Upd S a (b.setCell p u) :=
  ⟨h.os, h.tape, h.output, by have := h.size; simpa using this, fun k hk hs => (Below.heap_setCell _ _ _ _ (fun e => hs (by rw [e]; exact hp))).trans (h.same k hk hs)⟩
theorem Upd.alloc (h : Upd S a b) (o : Obj) : Upd S a (b.alloc o) :=
  ⟨h.os, h.tape, h.output, by have := h.size; simp; omega, fun k hk hs => (Below.heap_alloc _ _ _ (Nat.lt_of_lt_of_le hk h.size)).trans (h.same k hk hs)⟩
theorem Upd.of_below (h : Below a.heap.size a b) : Upd S a b := ⟨h.os, h.tape, h.output, h.size, fun k hk _ => h.block k hk⟩
theorem Upd.below (h : Upd S a b) {B : Nat} (hB : ∀ k, k ∈ S → B ≤ k) (hs : B ≤ a.heap.size) : Below B a b :=
  ⟨h.os, h.tape, h.output, h.size, fun k hk => h.same k (by omega) (fun x => by have := hB k x; omega)⟩
theorem Upd.row {t : TypeId} {k : IntKind} {zs : List Int} {x : Nat} (h : Upd S w w') (hr : Row w x t k zs) (hx : x ∉ S) : Row w' x t k zs := hr.of_block (h.same x hr.lt hx)
theorem Upd.cell (h : Upd S w w') {p : Addr} {v : Value} (hc : w.cell? p = some v) (hx : p.block ∉ S) : w'.cell? p = some v :=
  (World.cell?_of_block (w := w) (h.same p.block (World.block_lt_of_cell? w p hc) hx)).trans hc
end

theorem keep_drew {w : World} {a : Addr} {v : Value} (h : w.cell? a = some v) : w.drew.cell? a = some v := h
theorem keepF_drew {w : World} {a : Addr} (h : w.frozen? a = false) : w.drew.frozen? a = false := h
/-- The memory of dead ends: d nodes are placed, no set is remembered. -/
structure Dead (w : World) (bd bp bx n d : Nat) : Prop where
  blk : ∃ (hsh : Int) (tr : Value), tr.oneCell' = true ∧ w.heap[bd]? = some (.cells #[.func (.func 23) #[] #[], .slice (some ⟨bp, 0, none⟩) n n, .int .i64 d, .int .u64 hsh, tr, .slice (some ⟨bx, 0, none⟩) (n + 1 : Nat) (n + 1 : Nat), .slice none 0 0, .int .i64 0, .slice none 0 0] 83 (0, 0))
  ps : ∃ zs : List Int, Row w bp 21 .i32 zs ∧ zs.length = n
  xs : ∃ zs : List Int, Row w bx 21 .i32 zs ∧ zs.length = n + 1
  dp : bd ≠ bp
  dx : bd ≠ bx
  px : bp ≠ bx
theorem Dead.upd {w w' : World} {S : List Nat} {bd bp bx n d : Nat} (h : Dead w bd bp bx n d) (u : Upd S w w') (h1 : bd ∉ S) (h2 : bp ∉ S) (h3 : bx ∉ S) : Dead w' bd bp bx n d := by
  obtain ⟨⟨hs, tr, h0, hb⟩, ⟨z1, r1, l1⟩, ⟨z2, r2, l2⟩, e1, e2, e3⟩ := h
  exact ⟨⟨hs, tr, h0, (u.same bd (lt_of_block hb) h1).trans hb⟩, ⟨z1, u.row r1 h2, l1⟩, ⟨z2, u.row r2 h3, l2⟩, e1, e2, e3⟩

set_option maxHeartbeats 1000000 in
set_option maxRecDepth 100000 in
theorem holds_ok (w : World) (bd bp bx n d v : Nat) (s : Value) (hv : v < 6) (h : Dead w bd bp bx n d) :
    Calls Ybad.prog 34 #[.pointer (some ⟨bd, 0, none⟩), .int .i64 v, s] w fun e w' => e = .returned (.bool false) ∧ Below w.heap.size w w' := by
  obtain ⟨⟨hs, tr, h0, hb⟩, _⟩ := h
  have c0 : w.cell? ⟨bd, 0, none⟩ = some (.func (.func 23) #[] #[]) := by simp [World.cell?, hb]
  have c3 : w.cell? ⟨bd, 3, none⟩ = some (.int .u64 hs) := by simp [World.cell?, hb]
  have c7 : w.cell? ⟨bd, 7, none⟩ = some (.int .i64 0) := by simp [World.cell?, hb]
  clear hb
  go_enter Ybad.func34, Ybad.ntmps34
  go_wp2_with fail
  go_quiet (first | (go_at_call 23; exact Calls.quiet_of_same (key_ok _ v hv)) | (go_at_call 39; exact Calls.quiet_of_same (get_ok _ bd 6 _ c7)))
  go_wp2_with fail
  go_ret
  exact ⟨rfl, below_drewN (Below.refl _ _) _⟩

set_option maxHeartbeats 1000000 in
set_option maxRecDepth 100000 in
theorem place_ok (w : World) (bd bp bx n d v : Nat) (hn : n ≤ 6) (hv : v < n) (hd : d < n) (h : Dead w bd bp bx n d) :
    Calls Ybad.prog 35 #[.pointer (some ⟨bd, 0, none⟩), .int .i64 v] w fun e w' => (∃ x, e = .returned x) ∧ Dead w' bd bp bx n (d + 1) ∧ Upd [bd, bp, bx] w w' := by
  obtain ⟨⟨hs, tr, h0, hb⟩, ⟨z1, r1, l1⟩, ⟨z2, r2, l2⟩, e1, e2, e3⟩ := h
  have c0 : w.cell? ⟨bd, 0, none⟩ = some (.func (.func 23) #[] #[]) := by simp [World.cell?, hb]
  have c1 : w.cell? ⟨bd, 1, none⟩ = some (.slice (some ⟨bp, 0, none⟩) n n) := by simp [World.cell?, hb]
  have c2 : w.cell? ⟨bd, 2, none⟩ = some (.int .i64 d) := by simp [World.cell?, hb]
  have c3 : w.cell? ⟨bd, 3, none⟩ = some (.int .u64 hs) := by simp [World.cell?, hb]
  have cp := r1.cell (i := v) (by omega)
  have fp := r1.free v
  have b1 : (v : Int) < (n : Int) := by omega
  go_enter Ybad.func35, Ybad.ntmps35
  go_upto_region 0 with fail
  go_cut [0] from 4 to 44 (fun s0 wd => s0 = .pointer (some ⟨bd, 0, none⟩) ∧ Row wd bp 21 .i32 (z1.set v d) ∧ Upd [bd, bp, bx] w wd ∧ wd.heap[bd]? = w.heap[bd]? ∧ wd.heap[bx]? = w.heap[bx]?)
  case first =>
    go_region
    go_wp2_with fail
    go_meet
    exact ⟨rfl, r1.set v d, ((Upd.refl _ _).setCell (by simp) _).drew, Below.heap_setCell _ _ _ _ (by simpa using e1), Below.heap_setCell _ _ _ _ (by simpa using Ne.symm e3)⟩
  case rest =>
    obtain ⟨rfl, r1', u1, hb1, hx1⟩ := hcut
    replace hb1 := hb1.trans hb
    replace hx1 : Row wc bx 21 .i32 z2 := r2.of_block hx1
    clear c0 c1 c2 c3 cp fp hb r1 r2
    have c0 : wc.cell? ⟨bd, 0, none⟩ = some (.func (.func 23) #[] #[]) := by simp [World.cell?, hb1]
    have c3 : wc.cell? ⟨bd, 3, none⟩ = some (.int .u64 hs) := by simp [World.cell?, hb1]
    have f3 : wc.frozen? ⟨bd, 3, none⟩ = false := by simp [World.frozen?, hb1]
    generalize wc = w1 at *
    go_upto_region 1 with fail
    go_cut [0] from 4 to 44 (fun s0 wd => s0 = .pointer (some ⟨bd, 0, none⟩) ∧ ∃ h', wd = (w1.setCell ⟨bd, 3, none⟩ (.int .u64 h')).drew)
    case first =>
      have hv6 : v < 6 := by omega
      go_region_with (go_at_call 23; refine (key_ok _ v hv6).mono ?_; rintro e w' ⟨rfl, rfl⟩)
      all_goals go_wp2_with fail
      all_goals go_meet
      all_goals exact ⟨rfl, _, rfl⟩
    case rest =>
      obtain ⟨rfl, h', hwc⟩ := hcut
      have hb2 : wc.heap[bd]? = some (.cells #[.func (.func 23) #[] #[], .slice (some ⟨bp, 0, none⟩) n n, .int .i64 d, .int .u64 h', tr, .slice (some ⟨bx, 0, none⟩) (n + 1 : Nat) (n + 1 : Nat), .slice none 0 0, .int .i64 0, .slice none 0 0] 83 (0, 0)) := by
        rw [hwc]; exact (heap_set hb1 _).trans (by simp)
      have r2 : Row wc bp 21 .i32 (z1.set v d) := by rw [hwc]; exact r1'.of_block (Below.heap_setCell _ _ _ _ (by simpa using Ne.symm e1))
      have x2 : Row wc bx 21 .i32 z2 := by rw [hwc]; exact hx1.of_block (Below.heap_setCell _ _ _ _ (by simpa using Ne.symm e2))
      have u2 : Upd [bd, bp, bx] w wc := by rw [hwc]; exact (u1.setCell (by simp) _).drew
      clear hwc hb1 r1' hx1 u1 c0 c3 f3
      have c2 : wc.cell? ⟨bd, 2, none⟩ = some (.int .i64 d) := by simp [World.cell?, hb2]
      have f2 : wc.frozen? ⟨bd, 2, none⟩ = false := by simp [World.frozen?, hb2]
      go_upto_region 3 with fail
      have hb3 : (wc.setCell ⟨bd, 2, none⟩ (.int .i64 ((d : Int) + 1))).heap[bd]? = some (.cells #[.func (.func 23) #[] #[], .slice (some ⟨bp, 0, none⟩) n n, .int .i64 ((d : Int) + 1), .int .u64 h', tr, .slice (some ⟨bx, 0, none⟩) (n + 1 : Nat) (n + 1 : Nat), .slice none 0 0, .int .i64 0, .slice none 0 0] 83 (0, 0)) := (heap_set hb2 _).trans (by simp)
      have r3 : Row (wc.setCell ⟨bd, 2, none⟩ (.int .i64 ((d : Int) + 1))) bp 21 .i32 (z1.set v d) := r2.of_block (Below.heap_setCell _ _ _ _ (by simpa using Ne.symm e1))
      have x3 : Row (wc.setCell ⟨bd, 2, none⟩ (.int .i64 ((d : Int) + 1))) bx 21 .i32 z2 := x2.of_block (Below.heap_setCell _ _ _ _ (by simpa using Ne.symm e2))
      have u3 : Upd [bd, bp, bx] w (wc.setCell ⟨bd, 2, none⟩ (.int .i64 ((d : Int) + 1))) := u2.setCell (by simp) _
      generalize wc.setCell ⟨bd, 2, none⟩ (.int .i64 ((d : Int) + 1)) = w3 at *
      clear c2 f2 hb2 r2 x2 u2
      have c5 : w3.cell? ⟨bd, 5, none⟩ = some (.slice (some ⟨bx, 0, none⟩) (n + 1 : Nat) (n + 1 : Nat)) := by simp [World.cell?, hb3]
      have c2 : w3.cell? ⟨bd, 2, none⟩ = some (.int .i64 ((d : Int) + 1)) := by simp [World.cell?, hb3]
      have cx := x3.cell (i := d + 1) (by omega)
      have fx := x3.free (d + 1)
      have b2 : (d : Int) + 1 < (n : Int) + 1 := by omega
      have b3 : (0 : Int) ≤ (d : Int) + 1 := by omega
      go_region
      go_wp2_with fail
      go_end0
      refine ⟨⟨_, rfl⟩, ⟨⟨h', tr, h0, ?_⟩, ⟨_, r3.of_block ?_, by simpa using l1⟩, ⟨_, x3.set (d + 1) (-1), by simpa using l2⟩, e1, e2, e3⟩, (u3.setCell (by simp) _).drew⟩
      · exact (Below.heap_setCell _ _ _ _ (by simpa using e2)).trans hb3
      · exact Below.heap_setCell _ _ _ _ (by simpa using e3)

set_option maxHeartbeats 1000000 in
set_option maxRecDepth 100000 in
theorem unplace_ok (w : World) (bd bp bx n d v : Nat) (hn : n ≤ 6) (hv : v < n) (hd : d < n) (h : Dead w bd bp bx n (d + 1)) :
    Calls Ybad.prog 37 #[.pointer (some ⟨bd, 0, none⟩), .int .i64 v] w fun e w' => (∃ x, e = .returned x) ∧ Dead w' bd bp bx n d ∧ Upd [bd, bp, bx] w w' := by
  obtain ⟨⟨hs, tr, h0, hb⟩, ⟨z1, r1, l1⟩, ⟨z2, r2, l2⟩, e1, e2, e3⟩ := h
  have c1 : w.cell? ⟨bd, 1, none⟩ = some (.slice (some ⟨bp, 0, none⟩) n n) := by simp [World.cell?, hb]
  have cp := r1.cell (i := v) (by omega)
  have fp := r1.free v
  have b1 : (v : Int) < (n : Int) := by omega
  go_enter Ybad.func37, Ybad.ntmps37
  go_upto_region 1 with fail
  have r1' := r1.set v (-1)
  have hb1 : (w.setCell ⟨bp, v, none⟩ (.int .i32 (-1))).heap[bd]? = _ := (Below.heap_setCell _ _ _ _ (by simpa using e1)).trans hb
  have hx1 : Row (w.setCell ⟨bp, v, none⟩ (.int .i32 (-1))) bx 21 .i32 z2 := r2.of_block (Below.heap_setCell _ _ _ _ (by simpa using Ne.symm e3))
  have u1 : Upd [bd, bp, bx] w (w.setCell ⟨bp, v, none⟩ (.int .i32 (-1))) := (Upd.refl _ _).setCell (by simp) _
  generalize w.setCell ⟨bp, v, none⟩ (.int .i32 (-1)) = w1 at *
  clear c1 cp fp hb r1 r2
  have c0 : w1.cell? ⟨bd, 0, none⟩ = some (.func (.func 23) #[] #[]) := by simp [World.cell?, hb1]
  have c3 : w1.cell? ⟨bd, 3, none⟩ = some (.int .u64 hs) := by simp [World.cell?, hb1]
  have f3 : w1.frozen? ⟨bd, 3, none⟩ = false := by simp [World.frozen?, hb1]
  go_cut [0] from 4 to 30 (fun s0 wd => s0 = .pointer (some ⟨bd, 0, none⟩) ∧ ∃ h', wd = (w1.setCell ⟨bd, 3, none⟩ (.int .u64 h')).drew)
  case first =>
    have hv6 : v < 6 := by omega
    go_region_with (go_at_call 23; refine (key_ok _ v hv6).mono ?_; rintro e w' ⟨rfl, rfl⟩)
    all_goals go_wp2_with fail
    all_goals go_meet
    all_goals exact ⟨rfl, _, rfl⟩
  case rest =>
    obtain ⟨rfl, h', hwc⟩ := hcut
    have hb2 : wc.heap[bd]? = some (.cells #[.func (.func 23) #[] #[], .slice (some ⟨bp, 0, none⟩) n n, .int .i64 (d + 1 : Nat), .int .u64 h', tr, .slice (some ⟨bx, 0, none⟩) (n + 1 : Nat) (n + 1 : Nat), .slice none 0 0, .int .i64 0, .slice none 0 0] 83 (0, 0)) := by
      rw [hwc]; exact (heap_set hb1 _).trans (by simp)
    have r2 : Row wc bp 21 .i32 (z1.set v (-1)) := by rw [hwc]; exact r1'.of_block (Below.heap_setCell _ _ _ _ (by simpa using Ne.symm e1))
    have x2 : Row wc bx 21 .i32 z2 := by rw [hwc]; exact hx1.of_block (Below.heap_setCell _ _ _ _ (by simpa using Ne.symm e2))
    have u2 : Upd [bd, bp, bx] w wc := by rw [hwc]; exact (u1.setCell (by simp) _).drew
    clear hwc hb1 r1' hx1 u1 c0 c3 f3
    have c2 : wc.cell? ⟨bd, 2, none⟩ = some (.int .i64 ((d : Int) + 1)) := by simp [World.cell?, hb2]
    have f2 : wc.frozen? ⟨bd, 2, none⟩ = false := by simp [World.frozen?, hb2]
    have hsub : (d : Int) + 1 - 1 = d := by omega
    go_wp2_with fail
    go_end0
    refine ⟨⟨_, rfl⟩, ⟨⟨h', tr, h0, ?_⟩, ⟨_, r2.of_block ?_, by simpa using l1⟩, ⟨_, x2.of_block ?_, by simpa using l2⟩, e1, e2, e3⟩, u2.setCell (by simp) _⟩
    · exact (heap_set hb2 _).trans (by simp)
    · exact Below.heap_setCell _ _ _ _ (by simpa using Ne.symm e1)
    · exact Below.heap_setCell _ _ _ _ (by simpa using Ne.symm e2)
end Go.Proofs.YbulkbhcsDoor
