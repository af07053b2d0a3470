import Derived.Test.YbulkbhcsDoorRange
import Derived.Test.YbulkbhcsDoorFn
import Derived.Test.YbulkbhcsDoorNext
import Derived.Test.YbulkbhcsDoorSet
namespace Go.Proofs.YbulkbhcsDoor
open Go.RowKit

/-- What stays as it is while the walk goes on. -/
structure Cx where
  B : Nat
  B0 : Nat
  B1 : Nat
  l : Nat
  n : Nat
  g : List (List Nat)
  B3 : Nat
  B4 : Nat
  B8 : Nat
  B9 : Nat
  B10 : Nat
  B14 : Nat
  B15 : Nat
  bg : Nat
  cg : Nat
  bi : Nat
  bs : Nat
  bl : Nat
  bw : Nat
  cs : Nat
  bn : Nat
  bo : Nat
  bk : Nat
  bt : Nat
  bd : Nat
  bp : Nat
  bx : Nat
  bb : Nat
  B29 : Nat
  J : Nat → List (List Int) → World → Prop
structure Chain (c : Cx) : Prop where
  a0 : c.B ≤ c.B0 ∧ 0 < c.B0 ∧ c.B0 ≤ c.B3 ∧ c.B3 < c.B4 ∧ c.B4 < c.B8 ∧ c.B8 < c.bi ∧ c.bi < c.B9
  a1 : c.B9 < c.bs ∧ c.B9 < c.bl ∧ c.B9 < c.bw ∧ c.bs ≠ c.bw ∧ c.bl ≠ c.bw ∧ c.bs < c.B10 ∧ c.bl < c.B10 ∧ c.bw < c.B10
  a2 : c.B10 < c.B14 ∧ c.B14 < c.B15 ∧ c.B15 < c.bn ∧ c.bn < c.bo ∧ c.bo < c.bk ∧ c.bk < c.bt
  a3 : c.bt < c.bd ∧ c.bt < c.bp ∧ c.bt < c.bx ∧ c.bd ≠ c.bp ∧ c.bd ≠ c.bx ∧ c.bp ≠ c.bx ∧ c.bd < c.bb ∧ c.bp < c.bb ∧ c.bx < c.bb ∧ c.bb < c.B29 ∧ c.B29 < c.B1
structure Fit (c : Cx) : Prop where
  ch : Chain c
  ok : Ok c.g
  gn : c.g.length = c.n
  n1 : 1 ≤ c.n
  full : (greedy c.g c.n []).length = c.n
  stab : Stable c.B0 c.J
  gj : ∀ B1 pre A, c.J B1 pre A → Gr c.B A c.bg c.g ∧ Deb A
theorem RM.upd {S : List Nat} {B : Nat} {w w' : World} {g : List (List Nat)} {n B3 B8 B9 B10 bg cg bi bs bl bw cs : Nat} {E : List Nat} {F : Nat} (o : RM B w g n B3 B8 B9 B10 bg cg bi bs bl bw cs E F) (u : Upd S w w')
    (hs : B ≤ w.heap.size) (hS : ∀ k, k ∈ S → B ≤ k ∧ k ≠ B3 ∧ k ≠ B8 ∧ k ≠ B9 ∧ k ≠ B10 ∧ k ≠ bi ∧ k ≠ bs ∧ k ≠ bl ∧ k ≠ bw) : RM B w' g n B3 B8 B9 B10 bg cg bi bs bl bw cs E F := by
  obtain ⟨a1, a2, a3, a4, a5, ⟨b1, b2, b3⟩, a7, i1, i2, n1, n2⟩ := o
  exact ⟨u.cell a1 (fun h => (hS _ h).2.1 rfl), u.cell a2 (fun h => (hS _ h).2.2.1 rfl), u.cell a3 (fun h => (hS _ h).2.2.2.1 rfl), u.cell a4 (fun h => (hS _ h).2.2.2.2.1 rfl), u.row a5 (fun h => (hS _ h).2.2.2.2.2.1 rfl),
    ⟨u.cell b1 (fun h => (hS _ h).2.2.2.2.2.2.1 rfl), u.cell b2 (fun h => (hS _ h).2.2.2.2.2.2.2.1 rfl), u.row b3 (fun h => (hS _ h).2.2.2.2.2.2.2.2 rfl)⟩, a7.below (u.below (fun k hk => (hS k hk).1) hs), i1, i2, n1, n2⟩
/-- The memory of the walk. -/
structure St (c : Cx) (w : World) (pr po pk : List Nat) (F dn : Nat) (zt zb : List Int) (tt : Int) (pre : List (List Int)) : Prop where
  rm : RM c.B w c.g c.n c.B3 c.B8 c.B9 c.B10 c.bg c.cg c.bi c.bs c.bl c.bw c.cs (rest c.g pr) F
  wk : w.heap[c.B4]? = some (.cells #[.nilFunc, .nilFunc, .func (.yield c.l) #[] #[], .nilFunc, .int .i64 0, .int .i64 0, .nilFunc] 58 (0, 0))
  k14 : w.cell? ⟨c.B14, 0, none⟩ = some (relV 26 c.B3 c.B8 c.B9 c.B10 c.B14)
  k15 : w.cell? ⟨c.B15, 0, none⟩ = some (relV 27 c.B3 c.B8 c.B9 c.B10 c.B15)
  ne : w.heap[c.bn]? = some (.cells (Array.replicate c.n (.bool false)) 4 (0, 0))
  od : Hb w c.bo c.n po
  kp : Hb w c.bk c.n pk
  tr : Row w c.bt 3 .i64 zt
  trl : zt.length = c.n + 1
  bf : Row w c.bb 3 .i64 zb
  bfl : zb.length = c.n + 1
  dd : Dead w c.bd c.bp c.bx c.n dn
  ts : Row w c.B29 3 .i64 [tt]
  deb : Deb w
  jj : c.J c.B1 pre w
  sz : c.B1 ≤ w.heap.size
section
variable {c : Cx} {w w' : World} {pr po pk : List Nat} {F dn : Nat} {zt zb : List Int} {tt : Int} {pre : List (List Int)}
theorem St.setTr (f : Fit c) (h : St c w pr po pk F dn zt zb tt pre) (i : Nat) (x : Int) : St c (w.setCell ⟨c.bt, i, none⟩ (.int .i64 x)) pr po pk F dn (zt.set i x) zb tt pre := by
  obtain ⟨⟨_, _, _, _, _, _, _⟩, ⟨_, _, _, _, _, _, _, _⟩, ⟨_, _, _, _, _, _⟩, ⟨_, _, _, _, _, _, _, _, _, _, _⟩⟩ := f.ch
  obtain ⟨rm, wk, k14, k15, ne, od, kp, tr, trl, bf, bfl, dd, ts, deb, jj, sz⟩ := h
  have u : Upd [c.bt] w (w.setCell ⟨c.bt, i, none⟩ (.int .i64 x)) := (Upd.refl _ _).setCell (by simp) _
  exact ⟨rm.upd u (by omega) (fun k hk => by simp at hk; omega),
    (u.same c.B4 (lt_of_block wk) (by simp; omega)).trans wk,
    u.cell k14 (by simp; omega),
    u.cell k15 (by simp; omega),
    (u.same c.bn (lt_of_block ne) (by simp; omega)).trans ne,
    od.of_block (u.same _ od.lt (by simp; omega)),
    kp.of_block (u.same _ kp.lt (by simp; omega)),
    tr.set i x,
    by simpa using trl,
    u.row bf (by simp; omega),
    bfl,
    dd.upd u (by simp; omega) (by simp; omega) (by simp; omega),
    u.row ts (by simp; omega),
    deb.of_block (u.same 0 (by omega) (by simp; omega)),
    f.stab _ _ _ _ jj (Keep.of_upd u (fun k hk => by simp at hk; omega)),
    Nat.le_trans sz u.size⟩
theorem St.setBf (f : Fit c) (h : St c w pr po pk F dn zt zb tt pre) (i : Nat) (x : Int) : St c (w.setCell ⟨c.bb, i, none⟩ (.int .i64 x)) pr po pk F dn zt (zb.set i x) tt pre := by
  obtain ⟨⟨_, _, _, _, _, _, _⟩, ⟨_, _, _, _, _, _, _, _⟩, ⟨_, _, _, _, _, _⟩, ⟨_, _, _, _, _, _, _, _, _, _, _⟩⟩ := f.ch
  obtain ⟨rm, wk, k14, k15, ne, od, kp, tr, trl, bf, bfl, dd, ts, deb, jj, sz⟩ := h
  have u : Upd [c.bb] w (w.setCell ⟨c.bb, i, none⟩ (.int .i64 x)) := (Upd.refl _ _).setCell (by simp) _
  exact ⟨rm.upd u (by omega) (fun k hk => by simp at hk; omega),
    (u.same c.B4 (lt_of_block wk) (by simp; omega)).trans wk,
    u.cell k14 (by simp; omega),
    u.cell k15 (by simp; omega),
    (u.same c.bn (lt_of_block ne) (by simp; omega)).trans ne,
    od.of_block (u.same _ od.lt (by simp; omega)),
    kp.of_block (u.same _ kp.lt (by simp; omega)),
    u.row tr (by simp; omega),
    trl,
    bf.set i x,
    by simpa using bfl,
    dd.upd u (by simp; omega) (by simp; omega) (by simp; omega),
    u.row ts (by simp; omega),
    deb.of_block (u.same 0 (by omega) (by simp; omega)),
    f.stab _ _ _ _ jj (Keep.of_upd u (fun k hk => by simp at hk; omega)),
    Nat.le_trans sz u.size⟩
theorem St.setTs (f : Fit c) (h : St c w pr po pk F dn zt zb tt pre) (x : Int) : St c (w.setCell ⟨c.B29, 0, none⟩ (.int .i64 x)) pr po pk F dn zt zb x pre := by
  obtain ⟨⟨_, _, _, _, _, _, _⟩, ⟨_, _, _, _, _, _, _, _⟩, ⟨_, _, _, _, _, _⟩, ⟨_, _, _, _, _, _, _, _, _, _, _⟩⟩ := f.ch
  obtain ⟨rm, wk, k14, k15, ne, od, kp, tr, trl, bf, bfl, dd, ts, deb, jj, sz⟩ := h
  have u : Upd [c.B29] w (w.setCell ⟨c.B29, 0, none⟩ (.int .i64 x)) := (Upd.refl _ _).setCell (by simp) _
  exact ⟨rm.upd u (by omega) (fun k hk => by simp at hk; omega),
    (u.same c.B4 (lt_of_block wk) (by simp; omega)).trans wk,
    u.cell k14 (by simp; omega),
    u.cell k15 (by simp; omega),
    (u.same c.bn (lt_of_block ne) (by simp; omega)).trans ne,
    od.of_block (u.same _ od.lt (by simp; omega)),
    kp.of_block (u.same _ kp.lt (by simp; omega)),
    u.row tr (by simp; omega),
    trl,
    u.row bf (by simp; omega),
    bfl,
    dd.upd u (by simp; omega) (by simp; omega) (by simp; omega),
    ts.set 0 x,
    deb.of_block (u.same 0 (by omega) (by simp; omega)),
    f.stab _ _ _ _ jj (Keep.of_upd u (fun k hk => by simp at hk; omega)),
    Nat.le_trans sz u.size⟩
theorem St.setRm (f : Fit c) (h : St c w pr po pk F dn zt zb tt pre) {pr' : List Nat} {F' : Nat} (u : Upd [c.bi, c.bw] w w') (hr : RM c.B w' c.g c.n c.B3 c.B8 c.B9 c.B10 c.bg c.cg c.bi c.bs c.bl c.bw c.cs (rest c.g pr') F') : St c w' pr' po pk F' dn zt zb tt pre := by
  obtain ⟨⟨_, _, _, _, _, _, _⟩, ⟨_, _, _, _, _, _, _, _⟩, ⟨_, _, _, _, _, _⟩, ⟨_, _, _, _, _, _, _, _, _, _, _⟩⟩ := f.ch
  obtain ⟨rm, wk, k14, k15, ne, od, kp, tr, trl, bf, bfl, dd, ts, deb, jj, sz⟩ := h
  have u : Upd [c.bi, c.bw] w w' := u
  exact ⟨hr,
    (u.same c.B4 (lt_of_block wk) (by simp; omega)).trans wk,
    u.cell k14 (by simp; omega),
    u.cell k15 (by simp; omega),
    (u.same c.bn (lt_of_block ne) (by simp; omega)).trans ne,
    od.of_block (u.same _ od.lt (by simp; omega)),
    kp.of_block (u.same _ kp.lt (by simp; omega)),
    u.row tr (by simp; omega),
    trl,
    u.row bf (by simp; omega),
    bfl,
    dd.upd u (by simp; omega) (by simp; omega) (by simp; omega),
    u.row ts (by simp; omega),
    deb.of_block (u.same 0 (by omega) (by simp; omega)),
    f.stab _ _ _ _ jj (Keep.of_upd u (fun k hk => by simp at hk; omega)),
    Nat.le_trans sz u.size⟩
theorem St.setOd (f : Fit c) (h : St c w pr po pk F dn zt zb tt pre) {po' : List Nat} (u : Upd [c.bo] w w') (hr : Hb w' c.bo c.n po') : St c w' pr po' pk F dn zt zb tt pre := by
  obtain ⟨⟨_, _, _, _, _, _, _⟩, ⟨_, _, _, _, _, _, _, _⟩, ⟨_, _, _, _, _, _⟩, ⟨_, _, _, _, _, _, _, _, _, _, _⟩⟩ := f.ch
  obtain ⟨rm, wk, k14, k15, ne, od, kp, tr, trl, bf, bfl, dd, ts, deb, jj, sz⟩ := h
  have u : Upd [c.bo] w w' := u
  exact ⟨rm.upd u (by omega) (fun k hk => by simp at hk; omega),
    (u.same c.B4 (lt_of_block wk) (by simp; omega)).trans wk,
    u.cell k14 (by simp; omega),
    u.cell k15 (by simp; omega),
    (u.same c.bn (lt_of_block ne) (by simp; omega)).trans ne,
    hr,
    kp.of_block (u.same _ kp.lt (by simp; omega)),
    u.row tr (by simp; omega),
    trl,
    u.row bf (by simp; omega),
    bfl,
    dd.upd u (by simp; omega) (by simp; omega) (by simp; omega),
    u.row ts (by simp; omega),
    deb.of_block (u.same 0 (by omega) (by simp; omega)),
    f.stab _ _ _ _ jj (Keep.of_upd u (fun k hk => by simp at hk; omega)),
    Nat.le_trans sz u.size⟩
theorem St.setKp (f : Fit c) (h : St c w pr po pk F dn zt zb tt pre) {pk' : List Nat} (u : Upd [c.bk] w w') (hr : Hb w' c.bk c.n pk') : St c w' pr po pk' F dn zt zb tt pre := by
  obtain ⟨⟨_, _, _, _, _, _, _⟩, ⟨_, _, _, _, _, _, _, _⟩, ⟨_, _, _, _, _, _⟩, ⟨_, _, _, _, _, _, _, _, _, _, _⟩⟩ := f.ch
  obtain ⟨rm, wk, k14, k15, ne, od, kp, tr, trl, bf, bfl, dd, ts, deb, jj, sz⟩ := h
  have u : Upd [c.bk] w w' := u
  exact ⟨rm.upd u (by omega) (fun k hk => by simp at hk; omega),
    (u.same c.B4 (lt_of_block wk) (by simp; omega)).trans wk,
    u.cell k14 (by simp; omega),
    u.cell k15 (by simp; omega),
    (u.same c.bn (lt_of_block ne) (by simp; omega)).trans ne,
    od.of_block (u.same _ od.lt (by simp; omega)),
    hr,
    u.row tr (by simp; omega),
    trl,
    u.row bf (by simp; omega),
    bfl,
    dd.upd u (by simp; omega) (by simp; omega) (by simp; omega),
    u.row ts (by simp; omega),
    deb.of_block (u.same 0 (by omega) (by simp; omega)),
    f.stab _ _ _ _ jj (Keep.of_upd u (fun k hk => by simp at hk; omega)),
    Nat.le_trans sz u.size⟩
theorem St.setDd (f : Fit c) (h : St c w pr po pk F dn zt zb tt pre) {dd' : Nat} (u : Upd [c.bd, c.bp, c.bx] w w') (hr : Dead w' c.bd c.bp c.bx c.n dd') : St c w' pr po pk F dd' zt zb tt pre := by
  obtain ⟨⟨_, _, _, _, _, _, _⟩, ⟨_, _, _, _, _, _, _, _⟩, ⟨_, _, _, _, _, _⟩, ⟨_, _, _, _, _, _, _, _, _, _, _⟩⟩ := f.ch
  obtain ⟨rm, wk, k14, k15, ne, od, kp, tr, trl, bf, bfl, dd, ts, deb, jj, sz⟩ := h
  have u : Upd [c.bd, c.bp, c.bx] w w' := u
  exact ⟨rm.upd u (by omega) (fun k hk => by simp at hk; omega),
    (u.same c.B4 (lt_of_block wk) (by simp; omega)).trans wk,
    u.cell k14 (by simp; omega),
    u.cell k15 (by simp; omega),
    (u.same c.bn (lt_of_block ne) (by simp; omega)).trans ne,
    od.of_block (u.same _ od.lt (by simp; omega)),
    kp.of_block (u.same _ kp.lt (by simp; omega)),
    u.row tr (by simp; omega),
    trl,
    u.row bf (by simp; omega),
    bfl,
    hr,
    u.row ts (by simp; omega),
    deb.of_block (u.same 0 (by omega) (by simp; omega)),
    f.stab _ _ _ _ jj (Keep.of_upd u (fun k hk => by simp at hk; omega)),
    Nat.le_trans sz u.size⟩
theorem St.grow (f : Fit c) (h : St c w pr po pk F dn zt zb tt pre) (u : Below w.heap.size w w') : St c w' pr po pk F dn zt zb tt pre := by
  obtain ⟨⟨_, _, _, _, _, _, _⟩, ⟨_, _, _, _, _, _, _, _⟩, ⟨_, _, _, _, _, _⟩, ⟨_, _, _, _, _, _, _, _, _, _, _⟩⟩ := f.ch
  obtain ⟨rm, wk, k14, k15, ne, od, kp, tr, trl, bf, bfl, dd, ts, deb, jj, sz⟩ := h
  have u : Upd [] w w' := Upd.of_below u
  exact ⟨rm.upd u (by omega) (fun k hk => by simp at hk),
    (u.same c.B4 (lt_of_block wk) (by simp)).trans wk,
    u.cell k14 (by simp),
    u.cell k15 (by simp),
    (u.same c.bn (lt_of_block ne) (by simp)).trans ne,
    od.of_block (u.same _ od.lt (by simp)),
    kp.of_block (u.same _ kp.lt (by simp)),
    u.row tr (by simp),
    trl,
    u.row bf (by simp),
    bfl,
    dd.upd u (by simp) (by simp) (by simp),
    u.row ts (by simp),
    deb.of_block (u.same 0 (by omega) (by simp)),
    f.stab _ _ _ _ jj (Keep.of_upd u (fun k hk => by simp at hk)),
    Nat.le_trans sz u.size⟩
theorem St.back (f : Fit c) (h : St c w pr po pk F dn zt zb tt pre) {pre' : List (List Int)} (hs : Same c.B0 c.B1 w w') (hj : c.J c.B1 pre' w') : St c w' pr po pk F dn zt zb tt pre' := by
  obtain ⟨⟨_, _, _, _, _, _, _⟩, ⟨_, _, _, _, _, _, _, _⟩, ⟨_, _, _, _, _, _⟩, ⟨_, _, _, _, _, _, _, _, _, _, _⟩⟩ := f.ch
  obtain ⟨⟨a1, a2, a3, a4, a5, ⟨b1, b2, b3⟩, a7, i1, i2, n1, n2⟩, wk, k14, k15, ne, od, kp, tr, trl, bf, bfl, ⟨⟨hs', tr', h0', hb'⟩, ⟨z1, r1, l1⟩, ⟨z2, r2, l2⟩, e1, e2, e3⟩, ts, deb, jj, sz⟩ := h
  have hc : ∀ {p : Addr} {v : Value}, w.cell? p = some v → c.B0 ≤ p.block → p.block < c.B1 → w'.cell? p = some v := fun h h1 h2 => (World.cell?_of_block (w := w) (hs.2 _ h1 h2)).trans h
  have hb : ∀ k, c.B0 ≤ k → k < c.B1 → w'.heap[k]? = w.heap[k]? := hs.2
  exact ⟨⟨hc a1 (by simp; omega) (by simp; omega), hc a2 (by simp; omega) (by simp; omega), hc a3 (by simp; omega) (by simp; omega), hc a4 (by simp; omega) (by simp; omega), a5.of_block (hb _ (by omega) (by omega)),
      ⟨hc b1 (by simp; omega) (by simp; omega), hc b2 (by simp; omega) (by simp; omega), b3.of_block (hb _ (by omega) (by omega))⟩, (f.gj _ _ _ hj).1, i1, i2, n1, n2⟩,
    (hb _ (by omega) (by omega)).trans wk, hc k14 (by simp; omega) (by simp; omega), hc k15 (by simp; omega) (by simp; omega), (hb _ (by omega) (by omega)).trans ne, od.of_block (hb _ (by omega) (by omega)), kp.of_block (hb _ (by omega) (by omega)),
    tr.of_block (hb _ (by omega) (by omega)), trl, bf.of_block (hb _ (by omega) (by omega)), bfl,
    ⟨⟨hs', tr', h0', (hb _ (by omega) (by omega)).trans hb'⟩, ⟨z1, r1.of_block (hb _ (by omega) (by omega)), l1⟩, ⟨z2, r2.of_block (hb _ (by omega) (by omega)), l2⟩, e1, e2, e3⟩,
    ts.of_block (hb _ (by omega) (by omega)), (f.gj _ _ _ hj).2, hj, Nat.le_trans sz hs.1⟩
end
end Go.Proofs.YbulkbhcsDoor
