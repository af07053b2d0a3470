import Derived.Test.YbulkbhceU64
import Derived.RegionTactic
import Derived.BigRegion
import Derived.Deep.RegionHeld3
import Derived.Deep.DeepCutAuto
import Derived.Deep.Light
import Derived.OneCell
import Derived.Laws.BytesString
import Derived.Laws.CopyOwn
namespace Go.Proofs.Ybulkbhce
open Go.RowKit

/-- Thirty-two zero bytes. -/
def zero32 : List Value := List.replicate 32 (.int .u8 0)
theorem info24 : (Yba.prog.info? 24).map (·.size) = some 32 := by kernel_rfl

/-- Block b is an array of 32 bytes, Z. -/
def Dig (w : World) (b : Nat) (Z : List Value) : Prop := w.heap[b]? = some (.cells Z.toArray 24 (0, 0)) ∧ Z.length = 32 ∧ ∀ v ∈ Z, v.oneCell' = true
section
variable {w w' : World} {b : Nat} {Z : List Value}
theorem Dig.lt (h : Dig w b Z) : b < w.heap.size := lt_of_block h.1
theorem Dig.range (h : Dig w b Z) : w.rangeAt b 0 Z := fun j v hv => by
  have h1 := h.1
  simp [World.cell?, h1, hv]
theorem Dig.there (h : Dig w b Z) : w.there b 0 32 := fun j hj => by
  obtain ⟨h1, h2, h3⟩ := h
  refine ⟨?_, by simp [World.frozen?, h1]⟩
  simp [World.cell?, h1, h2, hj]
theorem Dig.of_block (h : Dig w b Z) (hb : w'.heap[b]? = w.heap[b]?) : Dig w' b Z := ⟨hb.trans h.1, h.2⟩
theorem Dig.below (h : Dig w b Z) {B : Nat} (hb : Below B w w') (hB : b < B) : Dig w' b Z := h.of_block (hb.block b hB)
end
theorem Dig.new (w : World) : Dig (w.alloc (.cells zero32.toArray 24)) w.heap.size zero32 := by
  refine ⟨?_, by decide, by decide⟩
  show (w.heap.push _)[w.heap.size]? = _
  exact Array.getElem?_push_size

theorem keepR_drew {w : World} {b o : Nat} {cs : List Value} (h : w.rangeAt b o cs) : w.drew.rangeAt b o cs := h
theorem keepT_drew {w : World} {b o n : Nat} (h : w.there b o n) : w.drew.there b o n := h
theorem keepR_set {w : World} {b o n : Nat} {cs : List Value} (h : w.there b o n) (hl : cs.length = n) : (w.setCells b o cs).rangeAt b o cs :=
  World.rangeAt_setCells_same w b o cs (by rw [hl]; exact h)
theorem keepR_other {w : World} {b o b' o' : Nat} {cs vs : List Value} (h : w.rangeAt b o cs) (hne : b ≠ b') : (w.setCells b' o' vs).rangeAt b o cs :=
  World.rangeAt_setCells_apart h b' o' vs (Or.inl hne)
theorem keepT_set {w : World} {b o n b' o' : Nat} {cs : List Value} (h : w.there b o n) : (w.setCells b' o' cs).there b o n := World.there_setCells h b' o' cs

theorem below_setCells (w : World) {B b : Nat} (hb : B ≤ b) : ∀ (o : Nat) (cs : List Value), Below B w (w.setCells b o cs)
  | _, [] => Below.refl _ _
  | o, c :: cs => by
    rw [World.setCells]
    have h1 : Below B w (w.setCell ⟨b, o, none⟩ c) := (Below.refl _ _).setCell hb _
    exact h1.trans (below_setCells _ hb (o + 1) cs)

/-- Five results, the third of them in memory. -/
theorem results_five {fn : Func} {p q c d e : Tmp} {ty : TypeId} (h : fn.results = #[.tmp p, .tmp q, .cell c ty, .tmp d, .tmp e]) {tmps : Array Value} {P : Program} {w : World} {x : Addr} {v : Value}
    (hx : tmps.getD c undef = .pointer (some x)) (hv : (loadVar ty x).run P w = .ok v w) :
    (results fn tmps).run P w = .ok (.tuple #[tmps.getD p undef, tmps.getD q undef, v, tmps.getD d undef, tmps.getD e undef]) w := by
  have hx' : tmps[c]?.getD undef = .pointer (some x) := by simpa using hx
  simp only [results, h]
  simp [Result.andThen, hx', hv, asAddr]

set_option maxHeartbeats 400000 in
set_option maxRecDepth 100000 in
theorem cut_none (a : Option Addr) (cap : Nat) (w : World) :
    Calls Yba.prog 5 #[.slice a 0 cap] w fun e w' => e = .returned (.tuple #[.string ⟨#[]⟩, .int .u64 0, .agg zero32.toArray, .slice none 0 0, .bool false]) ∧ Below w.heap.size w w' := by
  go_enter Yba.func5, Yba.ntmps5
  go_upto_region 0 with fail
  go_cut [4] from 8 to 50 (fun a4 wd => ∃ b, a4 = .pointer (some ⟨b, 0, none⟩) ∧ w.heap.size ≤ b ∧ Dig wd b zero32 ∧ Below w.heap.size w wd)
  case first =>
    go_wp2_with fail
    go_meet
    go_light
    exact ⟨_, rfl, Nat.le_refl _, Dig.new w, (Below.refl _ _).alloc (Nat.le_refl _) _⟩
  case rest =>
    obtain ⟨b, rfl, hb, hd, hbel⟩ := hcut
    go_wp2_with fail
    obtain ⟨Z, hZ⟩ : ∃ Z, zero32 = Z := ⟨_, rfl⟩
    have HZ : Hid (zero32 = Z) := hZ
    rw [hZ] at hd
    clear hZ
    have hr := hd.range
    have ht := hd.there
    have hu := Yba.underlying24
    have hl : Z.length = 32 := hd.2.1
    have hi : (Yba.prog.info? 24).map (·.size) = some Z.length := by rw [hl]; exact info24
    have h1 := hd.2.2
    have hsz : Z.toArray.size = 32 := by simpa using hl
    go_region_held3 (fun w' => w'.rangeAt b 0 Z ∧ w'.there b 0 32) (refine ⟨?_, ?_⟩ <;> repeat (first | with_reducible assumption | with_reducible refine keepR_drew ?_ | with_reducible refine keepT_drew ?_ | with_reducible refine keepR_set ?_ hl | with_reducible refine keepT_set ?_)) (fail)
    go_wp2_with fail
    have hT : (wc.drew.setCells b 0 Z).rangeAt b 0 Z := keepR_set (keepT_drew ht) hl
    have hlv : (loadVar 24 ⟨b, 0, none⟩).run Yba.prog (wc.drew.setCells b 0 Z) = .ok (.agg Z.toArray) (wc.drew.setCells b 0 Z) := run_loadVar_mid _ b 0 24 Z _ hT hu rfl hi
    refine bodyPost_ret (v := .tuple #[.string ⟨#[]⟩, .int .u64 0, .agg Z.toArray, .slice none 0 0, .bool false]) ?_ rfl ⟨by rw [HZ.out], ?_⟩
    · exact results_five Yba.results5 rfl hlv
    · exact hbel.drew.trans (below_setCells _ hb _ _)
set_option maxHeartbeats 400000 in
set_option maxRecDepth 100000 in
theorem cut_short (g off n cap : Nat) (d : Int) (w : World) (hn1 : 1 ≤ n) (hm : n ≤ maxLen) (hd : By d) (hs : (n : Int) < 41 + d) (hc : w.cell? ⟨g, off, none⟩ = some (.int .u8 d)) :
    Calls Yba.prog 5 #[.slice (some ⟨g, off, none⟩) n cap] w fun e w' => e = .returned (.tuple #[.string ⟨#[]⟩, .int .u64 0, .agg zero32.toArray, .slice none 0 0, .bool false]) ∧ Below w.heap.size w w' := by
  unfold maxLen at hm
  obtain ⟨hd1, hd2⟩ := hd
  have hg := World.block_lt_of_cell? w _ hc
  dsimp only at hg
  go_enter Yba.func5, Yba.ntmps5
  go_upto_region 0 with fail
  go_cut [4] from 8 to 50 (fun a4 wd => ∃ b, a4 = .pointer (some ⟨b, 0, none⟩) ∧ w.heap.size ≤ b ∧ Dig wd b zero32 ∧ Below w.heap.size w wd)
  case first =>
    go_wp2_with fail
    go_meet
    go_light
    exact ⟨_, rfl, Nat.le_refl _, Dig.new w, (Below.refl _ _).alloc (Nat.le_refl _) _⟩
  case rest =>
    obtain ⟨b, rfl, hb, hd, hbel⟩ := hcut
    have hc' := (hbel.cell (p := ⟨g, off, none⟩) hg).trans hc
    go_wp2_with fail
    obtain ⟨Z, hZ⟩ : ∃ Z, zero32 = Z := ⟨_, rfl⟩
    have HZ : Hid (zero32 = Z) := hZ
    rw [hZ] at hd
    clear hZ
    have hr := hd.range
    have ht := hd.there
    have hu := Yba.underlying24
    have hl : Z.length = 32 := hd.2.1
    have hi : (Yba.prog.info? 24).map (·.size) = some Z.length := by rw [hl]; exact info24
    have h1 := hd.2.2
    have hsz : Z.toArray.size = 32 := by simpa using hl
    go_region_held3 (fun w' => w'.rangeAt b 0 Z ∧ w'.there b 0 32) (refine ⟨?_, ?_⟩ <;> repeat (first | with_reducible assumption | with_reducible refine keepR_drew ?_ | with_reducible refine keepT_drew ?_ | with_reducible refine keepR_set ?_ hl | with_reducible refine keepT_set ?_)) (fail)
    go_wp2_with fail
    have hT : (wc.drew.setCells b 0 Z).rangeAt b 0 Z := keepR_set (keepT_drew ht) hl
    have hlv : (loadVar 24 ⟨b, 0, none⟩).run Yba.prog (wc.drew.setCells b 0 Z) = .ok (.agg Z.toArray) (wc.drew.setCells b 0 Z) := run_loadVar_mid _ b 0 24 Z _ hT hu rfl hi
    refine bodyPost_ret (v := .tuple #[.string ⟨#[]⟩, .int .u64 0, .agg Z.toArray, .slice none 0 0, .bool false]) ?_ rfl ⟨by rw [HZ.out], ?_⟩
    · exact results_five Yba.results5 rfl hlv
    · exact hbel.drew.trans (below_setCells _ hb _ _)

/-- The numbers D k, D (k+1), .. (m of them), as cells. -/
def cellsAt (D : Nat → Int) (k m : Nat) : List Value := (List.range m).map (fun i => .int .u8 (D (k + i)))
def numsAt (D : Nat → Int) (k m : Nat) : List Int := (List.range m).map (fun i => D (k + i))
/-- The string that those bytes make. -/
def strOf (D : Nat → Int) (k m : Nat) : ByteArray := (numsAt D k m).foldl (fun r n => r.push (UInt8.ofNat n.toNat)) ByteArray.empty
theorem cellsAt_nums (D : Nat → Int) (k m : Nat) : cellsAt D k m = (numsAt D k m).map (Value.int .u8) := by simp [cellsAt, numsAt]
theorem cellsAt_length (D : Nat → Int) (k m : Nat) : (cellsAt D k m).length = m := by simp [cellsAt]
theorem cellsAt_get {D : Nat → Int} {k m j : Nat} {v : Value} (h : (cellsAt D k m)[j]? = some v) : j < m ∧ v = .int .u8 (D (k + j)) := by
  have hj : j < m := by have := (List.getElem?_eq_some_iff.1 h).1; rwa [cellsAt_length] at this
  refine ⟨hj, ?_⟩
  rw [cellsAt, List.getElem?_map, List.getElem?_range hj] at h
  simpa using h.symm
theorem cellsAt_range {w : World} {g off : Nat} {D : Nat → Int} {k m : Nat} (h : ∀ i, i < m → w.cell? ⟨g, off + i, none⟩ = some (.int .u8 (D (k + i)))) : w.rangeAt g off (cellsAt D k m) := fun j v hv => by
  obtain ⟨hj, rfl⟩ := cellsAt_get hv
  exact h j hj
theorem cellsAt_one (D : Nat → Int) (k m : Nat) : ∀ v ∈ cellsAt D k m, v.oneCell' = true := by
  intro v hv
  simp only [cellsAt, List.mem_map] at hv
  obtain ⟨i, _, rfl⟩ := hv
  rfl
theorem conv_str {W : World} {g off m c : Nat} {D : Nat → Int} {k : Nat} (h : W.rangeAt g off (cellsAt D k m)) :
    (convert 22 9 (.slice (some ⟨g, off, none⟩) m c)).run Yba.prog W = .ok (.string (strOf D k m)) W := by
  rw [run_convert_bytes_string W 22 9 5 _ _ _ Yba.underlying22 Yba.underlying5 Yba.underlying9]
  refine run_bytesToString W _ m c (numsAt D k m) ?_
  have hl := run_loadCells_list (P := Yba.prog) W ⟨g, off, none⟩ (cellsAt D k m) (fun j v hv => by rw [Addr.add_mid]; exact h j v hv)
  rw [cellsAt_length] at hl
  rw [hl, cellsAt_nums]
theorem splice_all (cs : List Value) (h : cs.length = 32) : splice zero32 0 cs = cs := by
  unfold splice
  rw [h]
  have e : zero32.drop (0 + 32) = [] := by decide
  rw [e]; simp
theorem info5 : (Yba.prog.info? 5).map (·.size) = some 1 := by kernel_rfl

set_option maxHeartbeats 1000000 in
set_option maxRecDepth 100000 in
theorem cut_ok (g off n cap m : Nat) (D : Nat → Int) (w : World) (hm : n ≤ cap) (hD : ∀ i, i < n → By (D i)) (hd0 : D 0 = m) (hs : 41 + m ≤ n) (hc : ∀ i, i < n → w.cell? ⟨g, off + i, none⟩ = some (.int .u8 (D i))) :
    Calls Yba.prog 5 #[.slice (some ⟨g, off, none⟩) n cap] w fun e w' => ∃ x : Addr, e = .returned (.tuple #[.string (strOf D 1 m), .int .u64 (be8 (fun i => D (1 + m + i))), .agg (cellsAt D (m + 9) 32).toArray, .slice (some x) (n - (m + 41)) (cap - (m + 41)), .bool true]) ∧ (m + 41 < n → x = ⟨g, off + (m + 41), none⟩) ∧ Below w.heap.size w w' := by
  have c0 := hc 0 (by omega)
  simp only [Nat.add_zero, hd0] at c0
  have hg := World.block_lt_of_cell? w _ c0
  dsimp only at hg
  have hm2 : m ≤ 255 := by have := (hD 0 (by omega)).2; omega
  have HD0 : Hid (D 0 = m) := hd0
  clear hd0
  go_enter Yba.func5, Yba.ntmps5
  go_upto_region 0 with fail
  go_cut [4] from 8 to 50 (fun a4 wd => ∃ b, a4 = .pointer (some ⟨b, 0, none⟩) ∧ w.heap.size ≤ b ∧ Dig wd b zero32 ∧ Below w.heap.size w wd)
  case first =>
    go_wp2_with fail
    go_meet
    go_light
    exact ⟨_, rfl, Nat.le_refl _, Dig.new w, (Below.refl _ _).alloc (Nat.le_refl _) _⟩
  case rest =>
    obtain ⟨b, rfl, hb, hd, hbel⟩ := hcut
    have c0' := (hbel.cell (p := ⟨g, off, none⟩) hg).trans c0
    go_upto_region 4 with fail
    go_cut [3] from 8 to 50 (fun a3 wd => a3 = .int .u64 (be8 (fun i => D (1 + m + i))) ∧ Dig wd b zero32 ∧ Below w.heap.size w wd)
    case first =>
      have hcw : ∀ i, i < 8 → wc.cell? ⟨g, off + (1 + m) + i, none⟩ = some (.int .u8 (D (1 + m + i))) := fun i hi => by
        rw [show off + (1 + m) + i = off + (1 + m + i) from by omega]
        exact (hbel.cell (p := ⟨g, off + (1 + m + i), none⟩) hg).trans (hc _ (by omega))
      have HC : Hid (∀ i, i < 8 → wc.cell? ⟨g, off + (1 + m) + i, none⟩ = some (.int .u8 (D (1 + m + i)))) := hcw
      have HDD : Hid (∀ i, i < n → By (D i)) := hD
      clear hcw hc hD
      go_region_with (go_at_call 7; refine (u64_any g (off + (1 + m)) (n - (1 + m)) (cap - (1 + m)) (fun i => D (1 + m + i)) _ (by omega) (fun i hi => HDD.out _ (by omega)) (by exact fun i hi => HC.out i hi)).mono ?_; rintro e w' ⟨rfl, hb'⟩)
      all_goals go_wp2_with fail
      all_goals go_meet
      all_goals exact ⟨rfl, (show Dig wc.drew b zero32 from hd).below hb' hd.lt, hbel.drew.trans (hb'.mono hbel.size)⟩
    case rest =>
      obtain ⟨rfl, hd2, hbel2⟩ := hcut
      clear hd hbel c0' c0
      have hX : Hid (∀ i, i < 32 → wc.cell? ⟨g, off + (m + 9) + i, none⟩ = some (.int .u8 (D (m + 9 + i)))) := fun i hi => by
        rw [show off + (m + 9) + i = off + (m + 9 + i) from by omega]
        exact (hbel2.cell (p := ⟨g, off + (m + 9 + i), none⟩) hg).trans (hc _ (by omega))
      have HC : Hid (∀ i, i < n → w.cell? ⟨g, off + i, none⟩ = some (.int .u8 (D i))) := hc
      have HDD : Hid (∀ i, i < n → By (D i)) := hD
      clear hc hD
      obtain ⟨k, hk⟩ : ∃ k : Nat, k = m + 9 := ⟨_, rfl⟩
      have HK : Hid (k = m + 9) := hk
      rw [← hk] at hX
      have hwr : IntKind.i64.wrap (1 + (m : Int) + 8) = (k : Int) := by
        rw [IntKind.wrap_i64, hk]; omega
      have kn : (k : Int) ≤ (n : Int) := by omega
      have hne : cap ≠ k := by omega
      have hkn : 32 ≤ n - k := by omega
      clear hk
      go_upto_region 5 with fail
      go_cut [4] from 8 to 50 (fun a4 wd => a4 = .pointer (some ⟨b, 0, none⟩) ∧ Dig wd b (cellsAt D k 32) ∧ Below w.heap.size w wd)
      case first =>
        have HR : Hid (wc.rangeAt g (off + k) (cellsAt D k 32)) := cellsAt_range hX.out
        have hL : Hid ((cellsAt D k 32).length = 32) := cellsAt_length _ _ _
        have h1 : Hid (∀ v ∈ cellsAt D k 32, v.oneCell' = true) := cellsAt_one _ _ _
        generalize cellsAt D k 32 = CS at *
        go_region_law (refine step_copy_splice rfl (.tmp 34) (.tmp 38) 22 22 rfl 5 Yba.underlying22 info5 _ _ _ _ _ _ rfl rfl b 0 zero32 24 (by exact hd2.1) CS (by rw [hL.out]; show 32 = min (n - k) 32; omega) (fun _ => ⟨rfl, _, rfl, fun j v hv => by rw [Addr.add_mid]; exact HR.out j v hv⟩) (by rw [hL.out]; decide) h1.out w.heap.size w (by exact hbel2.drew) hb ?_; intro w4 hg4 hb4)
        all_goals go_wp2_with fail
        all_goals go_meet
        all_goals exact ⟨rfl, ⟨by rw [← splice_all CS hL.out]; exact hg4.out, hL.out, h1.out⟩, hb4⟩
      case rest =>
        obtain ⟨rfl, hd3, hbel3⟩ := hcut
        clear hd2 hbel2 hX
        obtain ⟨q, hq⟩ : ∃ q : Nat, q = m + 41 := ⟨_, rfl⟩
        have HQ : Hid (q = m + 41) := hq
        have hwr2 : IntKind.i64.wrap ((k : Int) + 32) = (q : Int) := by
          rw [IntKind.wrap_i64, hq]; have := HK.out; omega
        have qn : (q : Int) ≤ (n : Int) := by omega
        clear hq
        have hZ := cellsAt_length D k 32
        generalize hCS : cellsAt D k 32 = CS at *
        have HCS : Hid (cellsAt D k 32 = CS) := hCS
        clear hCS
        have hr := hd3.range
        have ht := hd3.there
        have hu := Yba.underlying24
        have hi : (Yba.prog.info? 24).map (·.size) = some CS.length := by rw [hZ]; exact info24
        have h1 := hd3.2.2
        have hR : wc.rangeAt g (off + 1) (cellsAt D 1 m) := cellsAt_range fun i hi => by
          rw [show off + 1 + i = off + (1 + i) from by omega]
          exact (hbel3.cell (p := ⟨g, off + (1 + i), none⟩) hg).trans (HC.out _ (by omega))
        obtain ⟨S0, hS0⟩ : ∃ S0, strOf D 1 m = S0 := ⟨_, rfl⟩
        have hconv : ∀ (W : World) (c : Nat), W.rangeAt g (off + 1) (cellsAt D 1 m) → (convert 22 9 (.slice (some ⟨g, off + 1, none⟩) m c)).run Yba.prog W = .ok (.string S0) W := fun W c h => by rw [← hS0]; exact conv_str h
        have HS0 : Hid (strOf D 1 m = S0) := hS0
        clear hS0
        generalize cellsAt D 1 m = LS at *
        go_upto_region 6 with fail
        obtain ⟨p, hp⟩ : ∃ p : Nat, 1 + (m : Int) = (p : Int) := ⟨1 + m, by omega⟩
        have hwr3 : IntKind.i64.wrap ((p : Int) + 8) = (k : Int) := by rw [← hp]; exact hwr
        have p1 : (1 : Int) ≤ (p : Int) := by omega
        have p2 : (p : Int) ≤ (cap : Int) := by omega
        have p3 : cap ≠ 1 := by omega
        have p4 : p - 1 = m := by omega
        clear hwr
        go_region_held3 (fun w' => w'.rangeAt b 0 CS ∧ w'.there b 0 32 ∧ w'.rangeAt g (off + 1) LS) (refine ⟨?_, ?_, ?_⟩ <;> repeat (first | with_reducible assumption | with_reducible refine keepR_drew ?_ | with_reducible refine keepT_drew ?_ | with_reducible refine keepR_set ?_ hZ | with_reducible refine keepT_set ?_ | with_reducible refine keepR_other ?_ (by omega))) (fail)
        obtain ⟨x, hx, hxq⟩ : ∃ x : Addr, (if cap = q then some (⟨g, off, none⟩ : Addr) else some ⟨g, off + q, none⟩) = some x ∧ (q < n → x = ⟨g, off + q, none⟩) := by
          by_cases e : cap = q
          · exact ⟨_, if_pos e, fun h => by omega⟩
          · exact ⟨_, if_neg e, fun _ => rfl⟩
        rw [hx]
        clear hx
        go_wp2_with fail
        have hT : (wc.drew.setCells b 0 CS).rangeAt b 0 CS := keepR_set (keepT_drew ht) hZ
        have hlv : (loadVar 24 ⟨b, 0, none⟩).run Yba.prog (wc.drew.setCells b 0 CS) = .ok (.agg CS.toArray) (wc.drew.setCells b 0 CS) := run_loadVar_mid _ b 0 24 CS _ hT hu rfl hi
        refine bodyPost_ret (v := .tuple #[.string S0, .int .u64 (be8 (fun i => D (1 + m + i))), .agg CS.toArray, .slice (some x) (n - q) (cap - q), .bool true]) ?_ rfl ⟨x, ?_, ?_, ?_⟩
        · exact results_five Yba.results5 rfl hlv
        · rw [HS0.out, ← HK.out, HCS.out, HQ.out]
        · rw [← HQ.out]; exact hxq
        · exact hbel3.drew.trans (below_setCells _ hb _ _)
end Go.Proofs.Ybulkbhce
