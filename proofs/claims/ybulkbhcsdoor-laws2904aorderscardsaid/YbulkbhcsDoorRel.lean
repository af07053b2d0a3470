import Derived.Test.YbulkbhcsDoorOrder
namespace Go.Proofs.YbulkbhcsDoor
open Go.RowKit

theorem or_bit : ∀ F : Nat, F < 64 → ∀ v : Nat, v < 6 → ∀ u : Nat, u < 6 → (F ||| 2 ^ v).testBit u = (F.testBit u || u == v) := by decide +kernel
theorem less_bit : ∀ F : Nat, F < 64 → ∀ v : Nat, v < 6 → F - (F &&& 2 ^ v) < 64 ∧ ∀ u : Nat, u < 6 → (F - (F &&& 2 ^ v)).testBit u = (F.testBit u && !(u == v)) := by decide +kernel
/-- The word F is the set P. -/
structure IsF (F : Nat) (P : Nat → Prop) : Prop where
  lt : F < 64
  bit : ∀ u, u < 6 → (F.testBit u = true ↔ P u)
theorem IsF.add {F : Nat} {P Q : Nat → Prop} (h : IsF F P) {v : Nat} (hv : v < 6) (hq : ∀ u, u < 6 → (Q u ↔ P u ∨ u = v)) : IsF (F ||| 2 ^ v) Q :=
  ⟨or_small F h.lt v hv, fun u hu => by rw [or_bit F h.lt v hv u hu, hq u hu, ← h.bit u hu]; simp⟩
theorem IsF.remove {F : Nat} {P Q : Nat → Prop} (h : IsF F P) {v : Nat} (hv : v < 6) (hq : ∀ u, u < 6 → (Q u ↔ P u ∧ u ≠ v)) : IsF (F - (F &&& 2 ^ v)) Q :=
  ⟨(less_bit F h.lt v hv).1, fun u hu => by rw [(less_bit F h.lt v hv).2 u hu, hq u hu, ← h.bit u hu]; simp⟩
theorem IsF.congr {F : Nat} {P Q : Nat → Prop} (h : IsF F P) (hq : ∀ u, u < 6 → (Q u ↔ P u)) : IsF F Q := ⟨h.lt, fun u hu => by rw [hq u hu]; exact h.bit u hu⟩

/-- What release and hold see: the boxes, the counts E, the set F. -/
structure RM (B : Nat) (wr : World) (g : List (List Nat)) (n B3 B8 B9 B10 bg cg bi bs bl bw cs : Nat) (E : List Nat) (F : Nat) : Prop where
  c3 : wr.cell? ⟨B3, 0, none⟩ = some (.slice (some ⟨bg, 0, none⟩) n cg)
  c8 : wr.cell? ⟨B8, 0, none⟩ = some (.int .i64 n)
  c9 : wr.cell? ⟨B9, 0, none⟩ = some (.slice (some ⟨bi, 0, none⟩) n n)
  c10 : wr.cell? ⟨B10, 0, none⟩ = some (.pointer (some ⟨bs, 0, none⟩))
  row : Row wr bi 3 .i64 (cnt n E)
  ns : NS wr bs bl bw cs F
  gr : Gr B wr bg g
  i1 : B ≤ bi
  i2 : B ≤ bw
  ne1 : bi ∉ [B3, B8, B9, B10, bs, bl, bw]
  ne2 : bw ∉ [B3, B8, B9, B10, bs, bl, bi]
section
variable {B : Nat} {wr w' : World} {g : List (List Nat)} {n B3 B8 B9 B10 bg cg bi bs bl bw cs : Nat} {E : List Nat} {F : Nat}
theorem RM.setRow (o : RM B wr g n B3 B8 B9 B10 bg cg bi bs bl bw cs E F) {E' : List Nat} {i : Nat} {x : Int} (he : (cnt n E).set i x = cnt n E') :
    RM B (wr.setCell ⟨bi, i, none⟩ (.int .i64 x)) g n B3 B8 B9 B10 bg cg bi bs bl bw cs E' F := by
  obtain ⟨a1, a2, a3, a4, a5, ⟨b1, b2, b3⟩, a7, i1, i2, n1, n2⟩ := o
  have u : Upd [bi] wr (wr.setCell ⟨bi, i, none⟩ (.int .i64 x)) := (Upd.refl _ _).setCell (by simp) _
  simp only [List.mem_cons, List.not_mem_nil, or_false, not_or] at n1 n2
  exact ⟨u.cell a1 (by simp; omega), u.cell a2 (by simp; omega), u.cell a3 (by simp; omega), u.cell a4 (by simp; omega), by rw [← he]; exact a5.set i x,
    ⟨u.cell b1 (by simp; omega), u.cell b2 (by simp; omega), u.row b3 (by simp; omega)⟩, a7.below ((Below.refl _ _).setCell i1 _), i1, i2, by simp; omega, by simp; omega⟩
theorem RM.setF (o : RM B wr g n B3 B8 B9 B10 bg cg bi bs bl bw cs E F) (F' : Nat) :
    RM B (wr.setCell ⟨bw, 0, none⟩ (.int .u64 (F' : Int))) g n B3 B8 B9 B10 bg cg bi bs bl bw cs E F' := by
  obtain ⟨a1, a2, a3, a4, a5, ⟨b1, b2, b3⟩, a7, i1, i2, n1, n2⟩ := o
  have u : Upd [bw] wr (wr.setCell ⟨bw, 0, none⟩ (.int .u64 (F' : Int))) := (Upd.refl _ _).setCell (by simp) _
  simp only [List.mem_cons, List.not_mem_nil, or_false, not_or] at n1 n2
  exact ⟨u.cell a1 (by simp; omega), u.cell a2 (by simp; omega), u.cell a3 (by simp; omega), u.cell a4 (by simp; omega), u.row a5 (by simp; omega),
    ⟨u.cell b1 (by simp; omega), u.cell b2 (by simp; omega), b3.set 0 _⟩, a7.below ((Below.refl _ _).setCell i2 _), i1, i2, by simp; omega, by simp; omega⟩
theorem RM.congr (o : RM B wr g n B3 B8 B9 B10 bg cg bi bs bl bw cs E F) {E' : List Nat} (he : cnt n E = cnt n E') : RM B wr g n B3 B8 B9 B10 bg cg bi bs bl bw cs E' F := by
  obtain ⟨a1, a2, a3, a4, a5, a6, a7, i1, i2, n1, n2⟩ := o
  exact ⟨a1, a2, a3, a4, by rw [← he]; exact a5, a6, a7, i1, i2, n1, n2⟩
end
theorem cnt_place {g : List (List Nat)} {p : List Nat} {v n : Nat} (hvF : Free g p v) : cnt n (rest g p) = cnt n (g.getD v [] ++ rest g (p ++ [v])) := by
  unfold cnt
  apply List.map_congr_left
  intro u _
  rw [rest_place g hvF.1 hvF.2.1 u, List.count_append]

set_option maxHeartbeats 1000000 in
set_option maxRecDepth 100000 in
theorem release_ok (w : World) (B : Nat) (g : List (List Nat)) (ho : Ok g) (n B3 B8 B9 B10 bg cg bi bs bl bw cs F v : Nat) (p : List Nat) (x : Value) (hn : g.length = n) (hP : Pre g p) (hvF : Free g p v)
    (hM : RM B w g n B3 B8 B9 B10 bg cg bi bs bl bw cs (rest g p) F) (hF : IsF F (fun u => Free g p u ∧ u ≠ v)) :
    Calls Ybad.prog 26 #[.int .i64 v, .pointer (some ⟨B3, 0, none⟩), .pointer (some ⟨B9, 0, none⟩), .pointer (some ⟨B8, 0, none⟩), .pointer (some ⟨B10, 0, none⟩), x] w fun e w' => (∃ y, e = .returned y) ∧
      ∃ F', RM B w' g n B3 B8 B9 B10 bg cg bi bs bl bw cs (rest g (p ++ [v])) F' ∧ IsF F' (Free g (p ++ [v])) ∧ Upd [bi, bw] w w' := by
  have n6 := ho.n6
  have hvn : v < n := by have := hvF.1; omega
  have HG : Hid (g.length = n) := hn
  obtain ⟨bL, cL, g1, g2, g3⟩ := hM.gr.at' v (by omega)
  have hlen := ho.len v
  have hin := ho.lt v (by omega)
  have hM0 := hM.congr (cnt_place hvF)
  obtain ⟨L, hL⟩ : ∃ L, g.getD v [] = L := ⟨_, rfl⟩
  rw [hL] at g2 g3 hlen hin hM0
  have HL : Hid (g.getD v [] = L) := hL
  have HG3 : Hid (∀ i, i < L.length → w.cell? ⟨bL, i, none⟩ = some (.int .i64 ((L.getD i 0 : Nat) : Int))) := g3
  have HIN : Hid (∀ u ∈ L, u < g.length) := hin
  obtain ⟨m, hm⟩ : ∃ m, L.length = m := ⟨_, rfl⟩
  rw [hm] at g2
  have b7 : (v : Int) < (n : Int) := by omega
  have c3 := hM.c3
  have hF0 := hF.congr (fun u _ => freeK_zero hvF)
  clear hL g3 hin
  go_enter Ybad.func26, Ybad.ntmps26
  go_upto_region 1 with fail
  clear c3 g2
  go_loopg [14] m (fun gh s14 wx => ∃ (k F' : Nat), k ≤ m ∧ gh = m - k ∧ s14 = .int .i64 k ∧ RM B wx g n B3 B8 B9 B10 bg cg bi bs bl bw cs (L.drop k ++ rest g (p ++ [v])) F' ∧ IsF F' (FreeK g p v k) ∧ Upd [bi, bw] w wx)
  case atStart => exact ⟨0, F, by omega, by omega, rfl, by simpa using hM0, hF0, Upd.refl _ _⟩
  case round =>
    obtain ⟨k, F', hk, rfl, rfl, hM5, hF5, hU⟩ := hrel
    clear hM0 hF0
    by_cases hlt2 : k < m
    · obtain ⟨u, hu⟩ : ∃ u, L.getD k 0 = u := ⟨_, rfl⟩
      have huL : u ∈ L := by rw [← hu, List.getD_eq_getElem?_getD, List.getElem?_eq_getElem (by omega)]; exact List.getElem_mem _
      have hun := HIN.out u huL
      have hfr := hP.fresh hvF (u := u) (by rw [HL.out]; exact huL)
      have hstep := fun x => freeK_step (g := g) (p := p) (v := v) (k := k) (x := x) (by rw [HL.out]; omega) (by rw [HL.out, hu]; exact hun) (by rw [HL.out, hu]; exact hfr)
      rw [HL.out, hu] at hstep
      have hdr := drop_get (L := L) (k := k) (by omega)
      rw [hu] at hdr
      have hl := HG3.out k (by omega)
      rw [hu] at hl
      have hl2 : wr.cell? ⟨bL, k, none⟩ = some (.int .i64 (u : Int)) := hU.cell hl (by have := hM.i1; have := hM.i2; simp; omega)
      rw [hdr, List.cons_append] at hM5
      generalize hR : L.drop (k + 1) ++ rest g (p ++ [v]) = R at *
      obtain ⟨c, hc⟩ : ∃ c, R.count u = c := ⟨_, rfl⟩
      have hin : u < n := by omega
      have hrc := hM5.row.cell (i := u) (by rw [cnt_length]; omega)
      rw [cnt_get _ hin, List.count_cons_self, hc] at hrc
      simp only [Int.natCast_add, Int.cast_ofNat_Int] at hrc
      have hrf := hM5.row.free u
      have hM6 := hM5.setRow (i := u) (x := (c : Int)) (by rw [← hc]; exact cnt_less R u)
      have hrc2 := hM6.row.cell (i := u) (by rw [cnt_length]; omega)
      rw [cnt_get _ hin, hc] at hrc2
      have hU6 : Upd [bi, bw] w (wr.setCell ⟨bi, u, none⟩ (.int .i64 (c : Int))) := hU.setCell (by simp) _
      have hcl : c ≤ 100 := by
        have h1 := List.count_le_length (a := u) (l := R)
        have h2 := rest_len ho (p ++ [v])
        rw [← hR, List.length_append, List.length_drop] at h1
        rw [hR] at h1
        omega
      have b8 : (u : Int) < (n : Int) := by omega
      have b9 : (k : Int) < (m : Int) := by omega
      have c9 := hM5.c9
      have c9' := hM6.c9
      have c8' := hM6.c8
      have c10' := hM6.c10
      by_cases hc0 : c = 0
      · subst hc0
        have hadd := add_ok (wr.setCell ⟨bi, u, none⟩ (.int .i64 0)) bs bl bw cs F' u (by omega) hF5.lt hM6.ns
        have HPU : Hid (Calls Ybad.prog 25 _ (wr.setCell ⟨bi, u, none⟩ (.int .i64 0)) _) := hadd
        have hrc3 : (wr.setCell ⟨bi, u, none⟩ (.int .i64 0)).cell? ⟨bi, u, none⟩ = some (.int .i64 0) := hrc2
        have HM7 : RM B ((wr.setCell ⟨bi, u, none⟩ (.int .i64 0)).setCell ⟨bw, 0, none⟩ (.int .u64 ((F' ||| 2 ^ u : Nat) : Int))) g n B3 B8 B9 B10 bg cg bi bs bl bw cs R (F' ||| 2 ^ u) := hM6.setF _
        have HU7 : Upd [bi, bw] w ((wr.setCell ⟨bi, u, none⟩ (.int .i64 0)).setCell ⟨bw, 0, none⟩ (.int .u64 ((F' ||| 2 ^ u : Nat) : Int))) := hU6.setCell (by simp) _
        replace c9' : (wr.setCell ⟨bi, u, none⟩ (.int .i64 0)).cell? ⟨B9, 0, none⟩ = some (.slice (some ⟨bi, 0, none⟩) n n) := c9'
        replace c8' : (wr.setCell ⟨bi, u, none⟩ (.int .i64 0)).cell? ⟨B8, 0, none⟩ = some (.int .i64 n) := c8'
        replace c10' : (wr.setCell ⟨bi, u, none⟩ (.int .i64 0)).cell? ⟨B10, 0, none⟩ = some (.pointer (some ⟨bs, 0, none⟩)) := c10'
        replace hrc : wr.cell? ⟨bi, u, none⟩ = some (.int .i64 1) := hrc
        have hF7 : Hid (IsF (F' ||| 2 ^ u) (FreeK g p v (k + 1))) := hF5.add (by omega) (fun y _ => by
          rw [hstep y]
          exact ⟨fun h => h.elim .inl (fun h => .inr h.1), fun h => h.elim .inl (fun h => .inr ⟨h, hc⟩)⟩)
        clear hadd hstep hc hdr hl hrc2 hM6 hU6
        go_wp2_with (go_at_call 25; refine HPU.out.mono ?_; rintro e w6 ⟨⟨_, rfl⟩, rfl⟩)
        go_roundg (m - (k + 1))
        case measure => omega
        case rel => exact ⟨k + 1, _, by omega, rfl, by go_num, by rw [hR]; exact HM7, hF7.out, HU7⟩
      · have hc0' : (0 : Int) < (c : Int) := by omega
        have hF7 : Hid (IsF F' (FreeK g p v (k + 1))) := hF5.congr (fun y _ => by
          rw [hstep y]
          exact ⟨fun h => h.elim id (fun h => by omega), fun h => .inl h⟩)
        clear hstep hc hdr hl
        go_wp2_with fail
        go_roundg (m - (k + 1))
        case measure => omega
        case rel => exact ⟨k + 1, F', by omega, rfl, by go_num, by rw [hR]; exact hM6, hF7.out, hU6⟩
    · obtain rfl : k = m := by omega
      have hdr : L.drop k = [] := List.drop_eq_nil_of_le (by omega)
      rw [hdr, List.nil_append] at hM5
      go_wp2_with fail
      go_end0
      exact ⟨⟨_, rfl⟩, F', hM5, hF5.congr (fun u _ => by rw [← freeK_all, HL.out, hm]), hU⟩
end Go.Proofs.YbulkbhcsDoor
