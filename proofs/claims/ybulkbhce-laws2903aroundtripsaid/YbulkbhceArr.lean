import Derived.Test.YbulkbhceCut
import Derived.ChangeKeysEq
import Derived.BigFrame
namespace Go.Proofs.Ybulkbhce
open Go.RowKit

/-- Thirty-two bytes. -/
def Bytes32 (xs : Array Value) : Prop := ∀ i, i < 32 → ∃ v, xs[i]? = some (.int .u8 v)

theorem cells5 : Yba.prog.cellsOf 5 = 1 := by kernel_rfl

theorem run_part5 (w : World) (xs : Array Value) (i : Nat) {v : Int} (h : xs[i]? = some (.int .u8 v)) : (part 5 xs i).run Yba.prog w = .ok (.int .u8 v) w := by
  have hagg : (isAgg 5).run Yba.prog w = .ok false w := by
    unfold isAgg
    rw [Sem.run_bind, run_underlying Yba.underlying5 w]
    rfl
  simp [part, Sem.run_bind, hagg, h]

theorem run_equal5 (d : Nat) (w : World) (v : Int) : (Op.equalIn (d + 1) 5 (.int .u8 v) (.int .u8 v)).run Yba.prog w = .ok true w := by
  simp [Op.equalIn, run_underlying Yba.underlying5]

theorem run_items (d : Nat) (w : World) (xs : Array Value) : ∀ is : List Nat, (∀ i ∈ is, ∃ v, xs[i]? = some (.int .u8 v)) → (Op.eqItems (d + 1) 5 1 xs xs is).run Yba.prog w = .ok true w
  | [], _ => by simp [Op.eqItems]
  | i :: is, h => by
    obtain ⟨v, hv⟩ := h i (by simp)
    have ih := run_items d w xs is (fun j hj => h j (by simp [hj]))
    simp [Op.eqItems, Sem.run_bind, run_part5 w xs i hv, run_equal5, ih]

theorem run_eq24 (w : World) (xs : Array Value) (h : Bytes32 xs) : (Op.equal 24 (.agg xs) (.agg xs)).run Yba.prog w = .ok true w := by
  obtain ⟨i5, hi5⟩ : ∃ i, Yba.prog.info? 5 = some i := by
    have := info5
    cases hq : Yba.prog.info? 5 with
    | none => simp [hq] at this
    | some i => exact ⟨i, rfl⟩
  show (Op.equalIn (9998 + 1 + 1) 24 _ _).run Yba.prog w = _
  rw [run_equalIn_array w (9998 + 1) xs xs Yba.underlying24 hi5, cells5]
  exact run_items 9998 w xs _ (fun i hi => h i (by simpa using hi))

theorem eqGuard24 (op : BinOp) (x y : Operand) (xs ys : Array Value) (w : World) : (eqGuard op 24 x y (.agg xs) (.agg ys)).run Yba.prog w = .ok () w := by
  cases op
  case eql => simp [eqGuard, Sem.run_bind, run_program]
  case neq => simp [eqGuard, Sem.run_bind, run_program]
  all_goals simp [eqGuard]

/-- An array of 32 bytes lies at the head of block b. -/
structure Dg (w : World) (b : Nat) (Z : List Value) : Prop where
  range : w.rangeAt b 0 Z
  there : w.there b 0 32
  len : Z.length = 32
  one : ∀ v ∈ Z, v.oneCell' = true
theorem Dig.dg {w : World} {b : Nat} {Z : List Value} (h : Dig w b Z) : Dg w b Z := ⟨h.range, h.there, h.2.1, h.2.2⟩
theorem Dg.stored {w : World} {b : Nat} {Z Y : List Value} (h : Dg w b Z) (hl : Y.length = 32) (h1 : ∀ v ∈ Y, v.oneCell' = true) : Dg (w.setCells b 0 Y) b Y :=
  ⟨keepR_set h.there hl, keepT_set h.there, hl, h1⟩
theorem Dg.below {w w' : World} {b B : Nat} {Z : List Value} (h : Dg w b Z) (hb : Below B w w') (hB : b < B) : Dg w' b Z :=
  ⟨fun j v hv => (hb.cell (p := ⟨b, 0 + j, none⟩) hB).trans (h.range j v hv),
   fun j hj => ⟨by rw [hb.cell (p := ⟨b, 0 + j, none⟩) hB]; exact (h.there j hj).1, by rw [hb.frozen (p := ⟨b, 0 + j, none⟩) hB]; exact (h.there j hj).2⟩, h.len, h.one⟩
theorem Dg.drewN {w : World} {b : Nat} {Z : List Value} (h : Dg w b Z) (m : Nat) : Dg (w.drewN m) b Z := ⟨h.range, h.there, h.len, h.one⟩
/-- One byte of it. -/
theorem Dg.cell {w : World} {b k i : Nat} {D : Nat → Int} (h : Dg w b (cellsAt D k 32)) (hi : i < 32) : w.cell? ⟨b, i, none⟩ = some (.int .u8 (D (k + i))) := by
  have h1 := h.range i (.int .u8 (D (k + i))) (by rw [cellsAt, List.getElem?_map, List.getElem?_range hi]; rfl)
  simpa using h1

theorem size_setCells (w : World) (b : Nat) : ∀ (o : Nat) (cs : List Value), (w.setCells b o cs).heap.size = w.heap.size
  | _, [] => rfl
  | o, c :: cs => by rw [World.setCells, size_setCells _ b (o + 1) cs]; simp
section
variable {ops : Array Oper} {rest : List Oper} {o : Oper} {a : Act} {w : World} {Q : Exit → Act → World → Prop}
/-- 'x == y', x and y arrays of the same 32 bytes. -/
theorem wpList_eql24 (hw : Region.wanted o (yielded ops a.tmps) = true) (x y : Operand) (ty : TypeId) (ho : o.op = .binOp .eql 24 x y ty) (xs : Array Value) (hx : a.eval x = .agg xs) (hy : a.eval y = .agg xs) (hb : Bytes32 xs)
    (h : wpList Yba.prog ops Q rest (a.put o.dst (.bool true)) w) : wpList Yba.prog ops Q (o :: rest) a w :=
  BigFrame.wpList_want hw fun K hK => by
    unfold Oper.wp execOp
    simp only [ho, hx, hy, Sem.run_bind, eqGuard24, Result.andThen_ok, binOp, run_eq24 _ xs hb, Sem.run_pure]
    exact hK _ _ h
theorem wpList_neq24 (hw : Region.wanted o (yielded ops a.tmps) = true) (x y : Operand) (ty : TypeId) (ho : o.op = .binOp .neq 24 x y ty) (xs : Array Value) (hx : a.eval x = .agg xs) (hy : a.eval y = .agg xs) (hb : Bytes32 xs)
    (h : wpList Yba.prog ops Q rest (a.put o.dst (.bool false)) w) : wpList Yba.prog ops Q (o :: rest) a w :=
  BigFrame.wpList_want hw fun K hK => by
    unfold Oper.wp execOp
    simp only [ho, hx, hy, Sem.run_bind, eqGuard24, Result.andThen_ok, binOp, run_eq24 _ xs hb, Sem.run_pure]
    exact hK _ _ h
/-- The load of an array of 32 bytes. -/
theorem wpList_load24 (hw : Region.wanted o (yielded ops a.tmps) = true) (x : Operand) (ho : o.op = .load 24 x) (b : Nat) (hx : a.eval x = .pointer (some ⟨b, 0, none⟩)) (Z : List Value) (hd : Dg w b Z)
    (h : wpList Yba.prog ops Q rest (a.put o.dst (.agg Z.toArray)) w) : wpList Yba.prog ops Q (o :: rest) a w :=
  BigFrame.wpList_want hw fun K hK => wp_load_mid 24 x ho b 0 hx Z _ hd.range Yba.underlying24 rfl (by rw [hd.len]; exact info24) (hK _ _ h)
/-- The store of one. -/
theorem wpList_store24 (hg : o.guard = none) (x y : Operand) (ho : o.op = .store 24 x y) (b : Nat) (hx : a.eval x = .pointer (some ⟨b, 0, none⟩)) (Y Z : List Value) (hy : a.eval y = .agg Y.toArray) (hl : Y.length = 32) (h1 : ∀ v ∈ Y, v.oneCell' = true) (hd : Dg w b Z) (B : Nat) (w0 : World) (hb : Below B w0 w) (hB : B ≤ b)
    (h : ∀ w', Dg w' b Y → Below B w0 w' → w'.heap.size = w.heap.size → wpList Yba.prog ops Q rest (a.put o.dst undef) w') : wpList Yba.prog ops Q (o :: rest) a w :=
  wpList_store_mid hg 24 x y ho b 0 Y.toArray hx hy (by simpa [hl] using hd.there) (by simpa [hl] using info24) (all_oneCell_toArray h1) (h _ (hd.stored hl h1) (hb.trans (below_setCells _ hB _ _)) (size_setCells _ _ _ _))
end

theorem bytes32_cells (D : Nat → Int) (k : Nat) : Bytes32 (cellsAt D k 32).toArray := fun i hi =>
  ⟨D (k + i), by rw [List.getElem?_toArray, cellsAt, List.getElem?_map, List.getElem?_range hi]; rfl⟩
theorem zero32_cells : zero32 = cellsAt (fun _ => 0) 0 32 := rfl
theorem bytes32_zero : Bytes32 zero32.toArray := by rw [zero32_cells]; exact bytes32_cells _ _

theorem eqIn_nil (d : Nat) (w : World) : (Op.equalIn (d + 1) 22 (.slice none 0 0) (.slice none 0 0)).run Yba.prog w = .ok true w := by
  simp [Op.equalIn, run_underlying Yba.underlying22]
theorem eqIn_some (d : Nat) (x : Addr) (l c : Nat) (w : World) : (Op.equalIn (d + 1) 22 (.slice (some x) l c) (.slice none 0 0)).run Yba.prog w = .ok false w := by
  simp [Op.equalIn, run_underlying Yba.underlying22]
/-- 'x == nil', x a slice. -/
theorem eql_nil (w : World) : (binOp .eql 22 (.slice none 0 0) (.slice none 0 0)).run Yba.prog w = .ok (.bool true) w := by
  have h : (Op.equal 22 (.slice none 0 0) (.slice none 0 0)).run Yba.prog w = .ok true w := eqIn_nil 9999 w
  show ((do pure (Value.bool (← Op.equal 22 (.slice none 0 0) (.slice none 0 0))) : Sem Value)).run Yba.prog w = _
  simp [h]
theorem eql_some (x : Addr) (l c : Nat) (w : World) : (binOp .eql 22 (.slice (some x) l c) (.slice none 0 0)).run Yba.prog w = .ok (.bool false) w := by
  have h : (Op.equal 22 (.slice (some x) l c) (.slice none 0 0)).run Yba.prog w = .ok false w := eqIn_some 9999 x l c w
  show ((do pure (Value.bool (← Op.equal 22 (.slice (some x) l c) (.slice none 0 0))) : Sem Value)).run Yba.prog w = _
  simp [h]
end Go.Proofs.Ybulkbhce
