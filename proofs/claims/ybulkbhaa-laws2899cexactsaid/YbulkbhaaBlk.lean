import Derived.Test.YbulkbhaaRunPlain
import Derived.OneCell
namespace Go.Proofs.Ybulkbhaa
open Go.RowKit

/-- Block b of the world is a variable of two words that holds v. -/
def Blk (w : World) (b : Nat) (v : Int) : Prop := w.heap[b]? = some (.cells #[.int .i64 (hi v), .int .u64 (lo v)] 31 (0, 0))

section
variable {w w' : World} {b : Nat} {v : Int}
theorem Blk.c0 (h : Blk w b v) : w.cell? ⟨b, 0, none⟩ = some (.int .i64 (hi v)) := by unfold Blk at h; simp [World.cell?, h]
theorem Blk.c1 (h : Blk w b v) : w.cell? ⟨b, 1, none⟩ = some (.int .u64 (lo v)) := by unfold Blk at h; simp [World.cell?, h]
theorem Blk.f0 (h : Blk w b v) : w.frozen? ⟨b, 0, none⟩ = false := by unfold Blk at h; simp [World.frozen?, h]
theorem Blk.f1 (h : Blk w b v) : w.frozen? ⟨b, 1, none⟩ = false := by unfold Blk at h; simp [World.frozen?, h]
theorem Blk.lt (h : Blk w b v) : b < w.heap.size := lt_of_block h
theorem Blk.alloc (h : Blk w b v) (o : Obj) : Blk (w.alloc o) b v := by
  unfold Blk; rw [Below.heap_alloc _ _ _ h.lt]; exact h
theorem Blk.drew (h : Blk w b v) : Blk w.drew b v := h
theorem Blk.below (h : Blk w b v) {B : Nat} (hb : Below B w w') (hB : b < B) : Blk w' b v := by
  unfold Blk; rw [hb.block b hB]; exact h
theorem Blk.new (w : World) (v : Int) : Blk (w.alloc (.cells #[.int .i64 (hi v), .int .u64 (lo v)] 31)) w.heap.size v := by
  unfold Blk; show (w.heap.push _)[w.heap.size]? = _; simp
theorem Blk.newAt {w : World} {v : Int} {b : Nat} (h : b = w.heap.size) : Blk (w.alloc (.cells #[.int .i64 (hi v), .int .u64 (lo v)] 31)) b v := by
  rw [h]; exact Blk.new w v
theorem Blk.other (h : Blk w b v) {a : Addr} (hne : b ≠ a.block) (u : Value) : Blk (w.setCell a u) b v := by
  unfold Blk; rw [Below.heap_setCell _ _ _ _ hne]; exact h
theorem heap_set {w : World} {b o : Nat} {c : Array Value} {t : TypeId} {fr : Nat × Nat} (h : w.heap[b]? = some (.cells c t fr)) (u : Value) :
    (w.setCell ⟨b, o, none⟩ u).heap[b]? = some (.cells (c.setIfInBounds o u) t fr) := by
  have hlt := lt_of_block h
  have h' : w.heap[b] = .cells c t fr := by simpa [Array.getElem?_eq_getElem hlt] using h
  show (w.heap.modify b _)[b]? = _
  rw [Array.getElem?_eq_getElem (by simpa using hlt), Array.getElem_modify_self, h']
  rfl
theorem Blk.set (h : Blk w b v) (u : Int) : Blk ((w.setCell ⟨b, 0, none⟩ (.int .i64 (hi u))).setCell ⟨b, 1, none⟩ (.int .u64 (lo u))) b u := by
  unfold Blk at *
  rw [heap_set (heap_set h _) _]
  simp
end

/-- The three variables of the run, and the result's six cells: in blocks of the call's own, apart from one another. -/
structure Sts (W w : World) (bx b1 bz : Nat) (t : Int × Int × Int) : Prop where
  below : Below W.heap.size W w
  r : w.heap[W.heap.size + 1]? = some (.cells #[.int .i64 0, .int .u64 0, .int .i64 0, .int .u64 0, .int .i64 0, .int .u64 0] 34 (0, 0))
  x : Blk w bx t.1
  y : Blk w b1 t.2.1
  z : Blk w bz t.2.2
  xy : bx ≠ b1
  xz : bx ≠ bz
  yz : b1 ≠ bz
  gx : W.heap.size + 1 < bx
  gy : W.heap.size + 1 < b1
  gz : W.heap.size + 1 < bz

theorem Sts.on {W w w' : World} {bx b1 bz : Nat} {t : Int × Int × Int} (h : Sts W w bx b1 bz t) (hb : Below w.heap.size w w') : Sts W w' bx b1 bz t :=
  ⟨h.below.trans (hb.mono h.below.size), by rw [hb.block _ (lt_of_block h.r)]; exact h.r, h.x.below hb h.x.lt, h.y.below hb h.y.lt, h.z.below hb h.z.lt, h.xy, h.xz, h.yz, h.gx, h.gy, h.gz⟩

/-- Behind the three stores at a round's end. -/
theorem Sts.store {W w : World} {bx b1 bz : Nat} {t : Int × Int × Int} (h : Sts W w bx b1 bz t) (u : Int × Int × Int) {w' : World}
    (hx : Blk w' bx u.1) (hy : Blk w' b1 u.2.1) (hz : Blk w' bz u.2.2) (hb : Below (W.heap.size + 2) w w') : Sts W w' bx b1 bz u :=
  ⟨h.below.trans (hb.mono (by omega)), by rw [hb.block _ (by omega)]; exact h.r, hx, hy, hz, h.xy, h.xz, h.yz, h.gx, h.gy, h.gz⟩

theorem keep_drew {w : World} {a : Addr} {v : Value} (h : w.cell? a = some v) : w.drew.cell? a = some v := h
theorem keep_alloc {w : World} {a : Addr} {v : Value} (h : w.cell? a = some v) (o : Obj) : (w.alloc o).cell? a = some v :=
  (World.cell?_alloc_lt _ _ _ (World.block_lt_of_cell? w a h)).trans h
theorem keep_set {w : World} {a b : Addr} {v u : Value} (h : w.cell? a = some v) (hne : a.block ≠ b.block) : (w.setCell b u).cell? a = some v := by
  have e : (w.setCell b u).heap[a.block]? = w.heap[a.block]? := Below.heap_setCell _ _ _ _ hne
  exact (World.cell?_of_block (w := w) e).trans h
theorem Sts.rc {W w : World} {bx b1 bz : Nat} {t : Int × Int × Int} (h : Sts W w bx b1 bz t) :
    (w.cell? ⟨W.heap.size + 1, 0, none⟩ = some (.int .i64 0) ∧ w.cell? ⟨W.heap.size + 1, 1, none⟩ = some (.int .u64 0) ∧ w.cell? ⟨W.heap.size + 1, 2, none⟩ = some (.int .i64 0) ∧
     w.cell? ⟨W.heap.size + 1, 3, none⟩ = some (.int .u64 0) ∧ w.cell? ⟨W.heap.size + 1, 4, none⟩ = some (.int .i64 0) ∧ w.cell? ⟨W.heap.size + 1, 5, none⟩ = some (.int .u64 0)) ∧
    (∀ o, w.frozen? ⟨W.heap.size + 1, o, none⟩ = false) := by
  have hr := h.r
  refine ⟨⟨?_, ?_, ?_, ?_, ?_, ?_⟩, fun o => ?_⟩
  all_goals simp [World.cell?, World.frozen?, hr]
/-- All the variables of one round: x, y, z; e; xs, ys; the three next ones. -/
structure Nine (W w : World) (bx b1 bz be b2 b3 c1 c2 c3 : Nat) (t : Int × Int × Int) (e xs ys n1 n2 n3 : Int) : Prop where
  st : Sts W w bx b1 bz t
  e : Blk w be e
  xs : Blk w b2 xs
  ys : Blk w b3 ys
  n1 : Blk w c1 n1
  n2 : Blk w c2 n2
  n3 : Blk w c3 n3
  lx : bx < c1
  ly : b1 < c1
  lz : bz < c1
  le : be < c1
  l2 : b2 < c1
  l3 : b3 < c1
  l4 : c1 < c2
  l5 : c2 < c3
  g : W.heap.size + 1 < c1
section
variable {W w w' : World} {bx b1 bz be b2 b3 c1 c2 c3 : Nat} {t : Int × Int × Int} {e xs ys n1 n2 n3 : Int}
theorem Nine.on (h : Nine W w bx b1 bz be b2 b3 c1 c2 c3 t e xs ys n1 n2 n3) (hb : Below w.heap.size w w') : Nine W w' bx b1 bz be b2 b3 c1 c2 c3 t e xs ys n1 n2 n3 :=
  ⟨h.st.on hb, h.e.below hb h.e.lt, h.xs.below hb h.xs.lt, h.ys.below hb h.ys.lt, h.n1.below hb h.n1.lt, h.n2.below hb h.n2.lt, h.n3.below hb h.n3.lt, h.lx, h.ly, h.lz, h.le, h.l2, h.l3, h.l4, h.l5, h.g⟩
/-- A store into a block of the round's own leaves the run's variables. -/
theorem Sts.other (h : Sts W w bx b1 bz t) {a : Addr} (hx : bx ≠ a.block) (hy : b1 ≠ a.block) (hz : bz ≠ a.block) (hg : W.heap.size + 1 < a.block) (u : Value) : Sts W (w.setCell a u) bx b1 bz t :=
  ⟨h.below.setCell (by omega) u, by rw [Below.heap_setCell _ _ _ _ (by omega)]; exact h.r, h.x.other hx u, h.y.other hy u, h.z.other hz u, h.xy, h.xz, h.yz, h.gx, h.gy, h.gz⟩
theorem Nine.set1 (h : Nine W w bx b1 bz be b2 b3 c1 c2 c3 t e xs ys n1 n2 n3) (u : Int) :
    Nine W ((w.setCell ⟨c1, 0, none⟩ (.int .i64 (hi u))).setCell ⟨c1, 1, none⟩ (.int .u64 (lo u))) bx b1 bz be b2 b3 c1 c2 c3 t e xs ys u n2 n3 := by
  obtain ⟨st, he, hxs, hys, h1, h2, h3, lx, ly, lz, le, l2, l3, l4, l5, g⟩ := h
  exact ⟨(st.other (by simp; omega) (by simp; omega) (by simp; omega) (by simp; omega) _).other (by simp; omega) (by simp; omega) (by simp; omega) (by simp; omega) _,
    (he.other (by simp; omega) _).other (by simp; omega) _, (hxs.other (by simp; omega) _).other (by simp; omega) _, (hys.other (by simp; omega) _).other (by simp; omega) _,
    h1.set u, (h2.other (by simp; omega) _).other (by simp; omega) _, (h3.other (by simp; omega) _).other (by simp; omega) _, lx, ly, lz, le, l2, l3, l4, l5, g⟩
theorem Nine.set2 (h : Nine W w bx b1 bz be b2 b3 c1 c2 c3 t e xs ys n1 n2 n3) (u : Int) :
    Nine W ((w.setCell ⟨c2, 0, none⟩ (.int .i64 (hi u))).setCell ⟨c2, 1, none⟩ (.int .u64 (lo u))) bx b1 bz be b2 b3 c1 c2 c3 t e xs ys n1 u n3 := by
  obtain ⟨st, he, hxs, hys, h1, h2, h3, lx, ly, lz, le, l2, l3, l4, l5, g⟩ := h
  exact ⟨(st.other (by simp; omega) (by simp; omega) (by simp; omega) (by simp; omega) _).other (by simp; omega) (by simp; omega) (by simp; omega) (by simp; omega) _,
    (he.other (by simp; omega) _).other (by simp; omega) _, (hxs.other (by simp; omega) _).other (by simp; omega) _, (hys.other (by simp; omega) _).other (by simp; omega) _,
    (h1.other (by simp; omega) _).other (by simp; omega) _, h2.set u, (h3.other (by simp; omega) _).other (by simp; omega) _, lx, ly, lz, le, l2, l3, l4, l5, g⟩
theorem Nine.set3 (h : Nine W w bx b1 bz be b2 b3 c1 c2 c3 t e xs ys n1 n2 n3) (u : Int) :
    Nine W ((w.setCell ⟨c3, 0, none⟩ (.int .i64 (hi u))).setCell ⟨c3, 1, none⟩ (.int .u64 (lo u))) bx b1 bz be b2 b3 c1 c2 c3 t e xs ys n1 n2 u := by
  obtain ⟨st, he, hxs, hys, h1, h2, h3, lx, ly, lz, le, l2, l3, l4, l5, g⟩ := h
  exact ⟨(st.other (by simp; omega) (by simp; omega) (by simp; omega) (by simp; omega) _).other (by simp; omega) (by simp; omega) (by simp; omega) (by simp; omega) _,
    (he.other (by simp; omega) _).other (by simp; omega) _, (hxs.other (by simp; omega) _).other (by simp; omega) _, (hys.other (by simp; omega) _).other (by simp; omega) _,
    (h1.other (by simp; omega) _).other (by simp; omega) _, (h2.other (by simp; omega) _).other (by simp; omega) _, h3.set u, lx, ly, lz, le, l2, l3, l4, l5, g⟩
end
theorem Sts.move {W w : World} {bx b1 bz : Nat} {t : Int × Int × Int} (h : Sts W w bx b1 bz t) (v1 v2 v3 : Int) :
    Sts W ((((((w.setCell ⟨bx, 0, none⟩ (.int .i64 (hi v1))).setCell ⟨bx, 1, none⟩ (.int .u64 (lo v1))).setCell ⟨b1, 0, none⟩ (.int .i64 (hi v2))).setCell ⟨b1, 1, none⟩ (.int .u64 (lo v2))).setCell ⟨bz, 0, none⟩ (.int .i64 (hi v3))).setCell ⟨bz, 1, none⟩ (.int .u64 (lo v3))).drew bx b1 bz (v1, v2, v3) := by
  have gx := h.gx
  have gy := h.gy
  have gz := h.gz
  have hb : Below (W.heap.size + 2) w ((((((w.setCell ⟨bx, 0, none⟩ (.int .i64 (hi v1))).setCell ⟨bx, 1, none⟩ (.int .u64 (lo v1))).setCell ⟨b1, 0, none⟩ (.int .i64 (hi v2))).setCell ⟨b1, 1, none⟩ (.int .u64 (lo v2))).setCell ⟨bz, 0, none⟩ (.int .i64 (hi v3))).setCell ⟨bz, 1, none⟩ (.int .u64 (lo v3))).drew :=
    (((((((Below.refl _ _).setCell (by simp; omega) _).setCell (by simp; omega) _).setCell (by simp; omega) _).setCell (by simp; omega) _).setCell (by simp; omega) _).setCell (by simp; omega) _).drew
  have x := h.x
  have y := h.y
  have z := h.z
  have xy := h.xy
  have xz := h.xz
  have yz := h.yz
  refine h.store (v1, v2, v3) ?_ ?_ ?_ hb
  · exact (((((x.set v1).other (by simpa using xy) _).other (by simpa using xy) _).other (by simpa using xz) _).other (by simpa using xz) _).drew
  · exact (((((y.other (by simpa using Ne.symm xy) _).other (by simpa using Ne.symm xy) _).set v2).other (by simpa using yz) _).other (by simpa using yz) _).drew
  · exact (((((z.other (by simpa using Ne.symm xz) _).other (by simpa using Ne.symm xz) _).other (by simpa using Ne.symm yz) _).other (by simpa using Ne.symm yz) _).set v3).drew
theorem Nine.make {W w : World} {bx b1 bz be b2 b3 : Nat} {t : Int × Int × Int} {e xs ys : Int} (st : Sts W w bx b1 bz t) (he : Blk w be e) (hx : Blk w b2 xs) (hy : Blk w b3 ys) :
    Nine W (((w.alloc (.cells #[.int .i64 0, .int .u64 0] 31)).alloc (.cells #[.int .i64 0, .int .u64 0] 31)).alloc (.cells #[.int .i64 0, .int .u64 0] 31)) bx b1 bz be b2 b3 w.heap.size (w.heap.size + 1) (w.heap.size + 1 + 1) t e xs ys 0 0 0 := by
  have hb : Below w.heap.size w (((w.alloc (.cells #[.int .i64 0, .int .u64 0] 31)).alloc (.cells #[.int .i64 0, .int .u64 0] 31)).alloc (.cells #[.int .i64 0, .int .u64 0] 31)) :=
    (((Below.refl _ _).alloc (Nat.le_refl _) _).alloc (by simp) _).alloc (by simp; omega) _
  have k1 : Blk (w.alloc (.cells #[.int .i64 0, .int .u64 0] 31)) w.heap.size 0 := Blk.new w 0
  have k2 : Blk ((w.alloc (.cells #[.int .i64 0, .int .u64 0] 31)).alloc (.cells #[.int .i64 0, .int .u64 0] 31)) (w.heap.size + 1) 0 := Blk.newAt (v := 0) (by simp)
  have k3 : Blk (((w.alloc (.cells #[.int .i64 0, .int .u64 0] 31)).alloc (.cells #[.int .i64 0, .int .u64 0] 31)).alloc (.cells #[.int .i64 0, .int .u64 0] 31)) (w.heap.size + 1 + 1) 0 := Blk.newAt (v := 0) (by simp)
  exact ⟨st.on hb, he.below hb he.lt, hx.below hb hx.lt, hy.below hb hy.lt, (k1.alloc _).alloc _, k2.alloc _, k3, st.x.lt, st.y.lt, st.z.lt, he.lt, hx.lt, hy.lt, by omega, by omega, by have := lt_of_block st.r; omega⟩
theorem heap_second (W : World) (o r a b c : Obj) : (((((W.alloc o).alloc r).alloc a).alloc b).alloc c).drew.heap[W.heap.size + 1]? = some r := by
  show (((((W.alloc o).alloc r).alloc a).alloc b).alloc c).heap[W.heap.size + 1]? = some r
  rw [Below.heap_alloc _ _ _ (by simp only [World.size_alloc]; omega), Below.heap_alloc _ _ _ (by simp only [World.size_alloc]; omega), Below.heap_alloc _ _ _ (by simp only [World.size_alloc]; omega)]
  have e : W.heap.size + 1 = (W.alloc o).heap.size := by simp
  rw [e]
  show ((W.alloc o).heap.push r)[(W.alloc o).heap.size]? = some r
  exact Array.getElem?_push_size
theorem below_five (W : World) (o r a b c : Obj) : Below W.heap.size W (((((W.alloc o).alloc r).alloc a).alloc b).alloc c).drew :=
  ((((((Below.refl _ _).alloc (Nat.le_refl _) _).alloc (by simp) _).alloc (by simp; omega) _).alloc (by simp; omega) _).alloc (by simp; omega) _).drew
/-- The six ways in which the three variables may come to lie. -/
theorem blk1 (W : World) (v : Int) (o r b c : Obj) : Blk (((((W.alloc o).alloc r).alloc (.cells #[.int .i64 (hi v), .int .u64 (lo v)] 31)).alloc b).alloc c).drew (W.heap.size + 1 + 1) v := by
  have h := Blk.new ((W.alloc o).alloc r) v
  simp only [World.size_alloc] at h
  exact (((h.alloc b).alloc c).drew)
theorem blk2 (W : World) (v : Int) (o r a c : Obj) : Blk (((((W.alloc o).alloc r).alloc a).alloc (.cells #[.int .i64 (hi v), .int .u64 (lo v)] 31)).alloc c).drew (W.heap.size + 1 + 1 + 1) v := by
  have h := Blk.new (((W.alloc o).alloc r).alloc a) v
  simp only [World.size_alloc] at h
  exact ((h.alloc c).drew)
theorem blk3 (W : World) (v : Int) (o r a b : Obj) : Blk (((((W.alloc o).alloc r).alloc a).alloc b).alloc (.cells #[.int .i64 (hi v), .int .u64 (lo v)] 31)).drew (W.heap.size + 1 + 1 + 1 + 1) v := by
  have h := Blk.new ((((W.alloc o).alloc r).alloc a).alloc b) v
  simp only [World.size_alloc] at h
  exact h.drew
end Go.Proofs.Ybulkbhaa
