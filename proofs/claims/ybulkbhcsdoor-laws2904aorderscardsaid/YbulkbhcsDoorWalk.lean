import Derived.Test.YbulkbhcsDoorLoop
namespace Go.Proofs.YbulkbhcsDoor
open Go.RowKit
def wkV (l : Nat) : Value := .agg #[.nilFunc, .nilFunc, .func (.yield l) #[] #[], .nilFunc, .int .i64 0, .int .i64 0, .nilFunc]
theorem three3 (w : World) (a b c : Obj) :
    (((w.alloc a).alloc b).alloc c).heap[w.heap.size]? = some a ∧ (((w.alloc a).alloc b).alloc c).heap[w.heap.size + 1]? = some b ∧
    (((w.alloc a).alloc b).alloc c).heap[w.heap.size + 1 + 1]? = some c ∧ Below w.heap.size w (((w.alloc a).alloc b).alloc c) ∧ (((w.alloc a).alloc b).alloc c).heap.size = w.heap.size + 3 := by
  have e1 : (w.alloc a).heap.size = w.heap.size + 1 := by simp
  have e2 : ((w.alloc a).alloc b).heap.size = w.heap.size + 1 + 1 := by simp
  have q0 := heap_new w a
  have q1 := heap_new (w.alloc a) b
  have q2 := heap_new ((w.alloc a).alloc b) c
  rw [e1] at q1
  rw [e2] at q2
  refine ⟨?_, ?_, q2, (((Below.refl _ _).alloc (Nat.le_refl _) _).alloc (by simp) _).alloc (by simp; omega) _, by simp⟩
  · exact (Below.heap_alloc _ _ _ (by rw [e2]; omega)).trans ((Below.heap_alloc _ _ _ (by rw [e1]; omega)).trans q0)
  · exact (Below.heap_alloc _ _ _ (by rw [e2]; omega)).trans q1
theorem one1 (w : World) (a : Obj) : (w.alloc a).heap[w.heap.size]? = some a ∧ Below w.heap.size w (w.alloc a) ∧ (w.alloc a).heap.size = w.heap.size + 1 :=
  ⟨heap_new w a, (Below.refl _ _).alloc (Nat.le_refl _) _, by simp⟩
theorem blk {w w' : World} {k : Nat} {o : Obj} (hb : Below w.heap.size w w') (h : w.heap[k]? = some o) : w'.heap[k]? = some o := (hb.block k (lt_of_block h)).trans h
theorem blkU {w w' : World} {k : Nat} {o : Obj} {S : List Nat} (hb : Upd S w w') (h : w.heap[k]? = some o) (hk : k ∉ S) : w'.heap[k]? = some o := (hb.same k (lt_of_block h) hk).trans h
theorem NS.below {w w' : World} {bs bl bw cap F : Nat} (h : NS w bs bl bw cap F) (hb : Below w.heap.size w w') : NS w' bs bl bw cap F :=
  ⟨(hb.cell (p := ⟨bs, 0, none⟩) (World.block_lt_of_cell? w _ h.c0)).trans h.c0, (hb.cell (p := ⟨bl, 0, none⟩) (World.block_lt_of_cell? w _ h.c1)).trans h.c1, h.c2.below hb h.c2.lt⟩
theorem NS.set {w : World} {bs bl bw cap F : Nat} (h : NS w bs bl bw cap F) (h1 : bs ≠ bw) (h2 : bl ≠ bw) (F' : Nat) : NS (w.setCell ⟨bw, 0, none⟩ (.int .u64 (F' : Int))) bs bl bw cap F' :=
  ⟨(World.cell?_of_block (w := w) (Below.heap_setCell _ _ _ _ (by simpa using h1))).trans h.c0, (World.cell?_of_block (w := w) (Below.heap_setCell _ _ _ _ (by simpa using h2))).trans h.c1, h.c2.set 0 _⟩
theorem two2 (w : World) (a b : Obj) : ((w.alloc a).alloc b).heap[w.heap.size]? = some a ∧ ((w.alloc a).alloc b).heap[w.heap.size + 1]? = some b ∧ Below w.heap.size w ((w.alloc a).alloc b) ∧ ((w.alloc a).alloc b).heap.size = w.heap.size + 2 := by
  have e1 : (w.alloc a).heap.size = w.heap.size + 1 := by simp
  have q1 := heap_new (w.alloc a) b
  rw [e1] at q1
  exact ⟨(Below.heap_alloc _ _ _ (by rw [e1]; omega)).trans (heap_new w a), q1, ((Below.refl _ _).alloc (Nat.le_refl _) _).alloc (by simp) _, by simp⟩
theorem set_one {w : World} {k : Nat} {v u : Value} {t : TypeId} (h : w.heap[k]? = some (.cells #[v] t (0, 0))) : (w.setCell ⟨k, 0, none⟩ u).heap[k]? = some (.cells #[u] t (0, 0)) := (heap_set h u).trans (by simp)
theorem free_of {w : World} {k : Nat} {v : Value} {t : TypeId} (h : w.heap[k]? = some (.cells #[v] t (0, 0))) : w.frozen? ⟨k, 0, none⟩ = false := by simp [World.frozen?, h]
theorem cell_of {w : World} {k : Nat} {v : Value} {t : TypeId} (h : w.heap[k]? = some (.cells #[v] t (0, 0))) : w.cell? ⟨k, 0, none⟩ = some v := by simp [World.cell?, h]

/-- What has been laid ahead of the loops. -/
structure Su (w : World) (B0 B9 B10 B14 bg cg bi bs bl bw cs n F l : Nat) (E : List Nat) : Prop where
  k3 : w.heap[B0]? = some (.cells #[.slice (some ⟨bg, 0, none⟩) n cg] 35 (0, 0))
  k4 : w.heap[B0 + 1]? = some (.cells #[.nilFunc, .nilFunc, .func (.yield l) #[] #[], .nilFunc, .int .i64 0, .int .i64 0, .nilFunc] 58 (0, 0))
  k8 : w.heap[B0 + 1 + 1]? = some (.cells #[.int .i64 n] 3 (0, 0))
  k9 : w.heap[B9]? = some (.cells #[.slice (some ⟨bi, 0, none⟩) n n] 29 (0, 0))
  k10 : w.heap[B10]? = some (.cells #[.pointer (some ⟨bs, 0, none⟩)] 64 (0, 0))
  k14 : w.heap[B14]? = some (.cells #[relV 26 B0 (B0 + 1 + 1) B9 B10 B14] 55 (0, 0))
  k15 : w.heap[B14 + 1]? = some (.cells #[relV 27 B0 (B0 + 1 + 1) B9 B10 (B14 + 1)] 55 (0, 0))
  ns : NS w bs bl bw cs F
  row : Row w bi 3 .i64 (cnt n E)
theorem Su.below {w w' : World} {B0 B9 B10 B14 bg cg bi bs bl bw cs n F l : Nat} {E : List Nat} (h : Su w B0 B9 B10 B14 bg cg bi bs bl bw cs n F l E) (hb : Below w.heap.size w w') : Su w' B0 B9 B10 B14 bg cg bi bs bl bw cs n F l E :=
  ⟨blk hb h.k3, blk hb h.k4, blk hb h.k8, blk hb h.k9, blk hb h.k10, blk hb h.k14, blk hb h.k15, h.ns.below hb, h.row.below hb h.row.lt⟩
theorem run_store_fn (P : Program) (w : World) (a : Addr) (m : Mode) (f : Fn) (x y : Array Value) : (store a (.func f x y) m).run P w = stored P w a (.func f x y) m := run_store P w a _ m rfl
attribute [local go_sem] run_store_fn
set_option maxHeartbeats 1000000 in
set_option maxRecDepth 100000 in
theorem walk_ok (W : World) (B bg cg n l : Nat) (g : List (List Nat)) (ho : Ok g) (hn : g.length = n) (h1 : 1 ≤ n) (hB : B ≤ W.heap.size) (hgr : Gr B W bg g) (hdb : Deb W) (hfull : (greedy g n []).length = n)
    (J Jx : Nat → List (List Int) → World → Prop) (hJ : Stable W.heap.size J) (hG : ∀ B1 pre A, J B1 pre A → Gr B A bg g ∧ Deb A)
    (h0 : ∀ B1 A, W.heap.size ≤ B1 → B1 ≤ A.heap.size → Below W.heap.size W A → J B1 [] A) (hR : Rounds l W.heap.size n (ext g n) J Jx) :
    Calls Ybad.prog 22 #[.slice (some ⟨bg, 0, none⟩) n cg, wkV l, .func (.func 23) #[] #[]] W fun e W' => (∃ x y, e = .returned (.tuple #[x, y])) ∧ ∃ B1, W.heap.size ≤ B1 ∧ (J B1 (ext g n) W' ∨ ∃ pre, pre <+: ext g n ∧ pre ≠ [] ∧ Jx B1 pre W') := by
  have HJ : Hid (Stable _ _) := hJ
  have HGG : Hid (∀ _, _) := hG
  have H00 : Hid (∀ _, _) := h0
  have HRR : Hid (Rounds _ _ _ _ _ _) := hR
  have HFULL : Hid (_ = _) := hfull
  clear hJ hG h0 hR hfull
  have n6 := ho.n6
  unfold wkV
  rw [hn] at n6
  go_enter Ybad.func22, Ybad.ntmps22
  go_upto_region 2 with fail
  obtain ⟨k3, k4, k8, hb0, s0⟩ := three3 W (.cells #[.slice (some ⟨bg, 0, none⟩) n cg] 35) (.cells #[.nilFunc, .nilFunc, .func (.yield l) #[] #[], .nilFunc, .int .i64 0, .int .i64 0, .nilFunc] 58) (.cells #[.int .i64 n] 3)
  generalize ((W.alloc (.cells #[.slice (some ⟨bg, 0, none⟩) n cg] 35)).alloc (.cells #[.nilFunc, .nilFunc, .func (.yield l) #[] #[], .nilFunc, .int .i64 0, .int .i64 0, .nilFunc] 58)).alloc (.cells #[.int .i64 n] 3) = w0 at *
  obtain ⟨B0, hB0⟩ : ∃ b, W.heap.size = b := ⟨_, rfl⟩
  rw [hB0] at k3 k4 k8 hb0 s0 hB
  simp only [hB0]
  have c3 := cell_of k3
  have hc := indeg_ok w0 B bg cg g ho (by omega) (hgr.below (hb0.mono hB))
  rw [hn] at hc
  have HC : Hid (Calls Ybad.prog 19 _ _ _) := hc
  clear hc
  go_upto_region 3 with (go_at_call 19; refine HC.out.mono ?_; rintro e w1 ⟨bi, rfl, hr1, hb1, hbi⟩)
  have hrn : upto g n = rest g [] := by rw [rest_nil, hn]
  rw [hrn] at hr1
  obtain ⟨k9, hb2, s2⟩ := one1 w1 (.cells #[.slice (some ⟨bi, 0, none⟩) n n] 29)
  obtain ⟨B9, hB9⟩ : ∃ b, w1.heap.size = b := ⟨_, rfl⟩
  have hb12 := hb1.trans (hb2.mono hb1.size)
  have hbi9 := hr1.lt
  replace hr1 := hr1.below hb2 hr1.lt
  replace k3 := blk hb12 k3
  replace k4 := blk hb12 k4
  replace k8 := blk hb12 k8
  have hbW := hb0.trans (hb12.mono (by omega))
  have hs01 := hb1.size
  rw [hB9] at k9 s2 hs01 hbi9
  simp only [hB9]
  generalize w1.alloc (.cells #[.slice (some ⟨bi, 0, none⟩) n n] 29) = w2 at *
  clear HC hb0 hb1 hb2 hb12 c3 hB9
  have c8 := cell_of k8
  have H24 : Hid (Calls Ybad.prog 24 _ _ _) := newNS_ok w2 n n6 h1
  go_upto_region 4 with (go_at_call 24; refine H24.out.mono ?_; rintro e w3 ⟨bs, bl, bw, cs, rfl, hns, hb3, e1, e2, e3, e4, e5⟩)
  obtain ⟨k10, hb4, s4⟩ := one1 w3 (.cells #[.pointer (some ⟨bs, 0, none⟩)] 64)
  obtain ⟨B10, hB10⟩ : ∃ b, w3.heap.size = b := ⟨_, rfl⟩
  have hb34 := hb3.trans (hb4.mono hb3.size)
  have f1 := World.block_lt_of_cell? w3 _ hns.c0
  have f2 := World.block_lt_of_cell? w3 _ hns.c1
  have f3 := hns.c2.lt
  dsimp only at f1 f2
  replace hns := hns.below hb4
  replace hr1 := hr1.below hb34 hr1.lt
  replace k3 := blk hb34 k3
  replace k4 := blk hb34 k4
  replace k8 := blk hb34 k8
  replace k9 := blk hb34 k9
  replace hbW := hbW.trans (hb34.mono (by omega))
  rw [hB10] at k10 s4 f1 f2 f3
  simp only [hB10]
  generalize w3.alloc (.cells #[.pointer (some ⟨bs, 0, none⟩)] 64) = w4 at *
  clear H24 hb3 hb4 hb34 c8 hB10
  rw [s2] at e1 e2 e3
  have hF0 : IsF 0 (fun u => u < 0 ∧ Free g [] u) := ⟨by omega, fun u _ => by simp⟩
  have c9 := cell_of k9
  have HN : Hid (g.length = n) := hn
  go_upto_region 6 with fail
  clear c9
  go_loopg [11, 45] n (fun gh s11 s45 wr => ∃ (k F : Nat), k ≤ n ∧ gh = n - k ∧ s11 = .slice none 0 0 ∧ s45 = .int .i64 k ∧ NS wr bs bl bw cs F ∧ IsF F (fun u => u < k ∧ Free g [] u) ∧ Upd [bw] w4 wr)
  case atStart => exact ⟨0, 0, by omega, by omega, rfl, rfl, hns, hF0, Upd.refl _ _⟩
  case round =>
    obtain ⟨k, F, hk, rfl, rfl, rfl, hns2, hF, hU⟩ := hrel
    clear hns hF0
    have hr2 := hU.row hr1 (by simp; omega)
    have c8 := cell_of (blkU hU k8 (by simp; omega))
    have c10 := cell_of (blkU hU k10 (by simp; omega))
    by_cases hlt : k < n
    · have c1 := hr2.cell (i := k) (by rw [cnt_length]; omega)
      rw [cnt_get _ (by omega)] at c1
      have b1 : (k : Int) < (n : Int) := by omega
      by_cases hf : (rest g []).count k = 0
      · rw [hf] at c1
        have H25 : Hid (Calls Ybad.prog 25 _ _ _) := add_ok wr bs bl bw cs F k (by omega) hF.lt hns2
        have hF' : IsF (F ||| 2 ^ k) (fun u => u < k + 1 ∧ Free g [] u) := hF.add (by omega) (fun u _ => by
          constructor
          · rintro ⟨q1, q2⟩
            by_cases e : u = k
            · exact .inr e
            · exact .inl ⟨by omega, q2⟩
          · rintro (⟨q1, q2⟩ | rfl)
            · exact ⟨by omega, q2⟩
            · exact ⟨by omega, ⟨by rw [HN.out]; exact hlt, by simp, hf⟩⟩)
        have HF' : Hid (IsF _ _) := hF'
        have hns3 := hns2.set e4 e5 (F ||| 2 ^ k)
        have hU3 : Upd [bw] w4 (wr.setCell ⟨bw, 0, none⟩ (.int .u64 ((F ||| 2 ^ k : Nat) : Int))) := hU.setCell (by simp) _
        clear hF'
        go_wp2_with (go_at_call 25; refine H25.out.mono ?_; rintro e w6 ⟨⟨_, rfl⟩, rfl⟩)
        go_roundg (n - (k + 1))
        case measure => omega
        case rel => exact ⟨k + 1, _, by omega, rfl, rfl, by go_num, hns3, HF'.out, hU3⟩
      · have hne : (((rest g []).count k : Int) == 0) = false := by rw [beq_eq_false_iff_ne]; omega
        have HF' : Hid (IsF F (fun u => u < k + 1 ∧ Free g [] u)) := hF.congr (fun u _ => by
          constructor
          · rintro ⟨q1, q2⟩
            by_cases e : u = k
            · subst e; exact absurd q2.2.2 hf
            · exact ⟨by omega, q2⟩
          · rintro ⟨q1, q2⟩; exact ⟨by omega, q2⟩)
        generalize (rest g []).count k = c at *
        go_wp2_with fail
        go_roundg (n - (k + 1))
        case measure => omega
        case rel => exact ⟨k + 1, F, by omega, rfl, rfl, by go_num, hns2, HF'.out, hU⟩
    · obtain rfl : k = n := by omega
      have hF2 : IsF F (Free g []) := hF.congr (fun u _ => ⟨fun q => ⟨by have := q.1; rw [HN.out] at this; exact this, q⟩, fun q => q.2⟩)
      clear hF c10
      replace k3 := blkU hU k3 (by simp; omega)
      replace k4 := blkU hU k4 (by simp; omega)
      replace k8 := blkU hU k8 (by simp; omega)
      replace k9 := blkU hU k9 (by simp; omega)
      replace k10 := blkU hU k10 (by simp; omega)
      have hbW2 := hbW.trans (hU.below (B := B0) (by intro q hq; simp at hq; omega) (by omega))
      have hsz := hU.size
      rw [s4] at hsz
      clear hr1 hbW hlt
      generalize wr = w5 at *
      go_upto_region 14 with fail
      obtain ⟨k14, k15, hb6, s6⟩ := two2 w5 (.cells #[.nilFunc] 55) (.cells #[.nilFunc] 55)
      obtain ⟨B14, hB14⟩ : ∃ b, w5.heap.size = b := ⟨_, rfl⟩
      replace k3 := blk hb6 k3
      replace k4 := blk hb6 k4
      replace k8 := blk hb6 k8
      replace k9 := blk hb6 k9
      replace k10 := blk hb6 k10
      replace hns2 := hns2.below hb6
      replace hr2 := hr2.below hb6 hr2.lt
      replace hbW2 := hbW2.trans (hb6.mono (by omega))
      rw [hB14] at k14 k15 s6 hsz
      simp only [hB14]
      generalize (w5.alloc (.cells #[.nilFunc] 55)).alloc (.cells #[.nilFunc] 55) = w6 at *
      clear hb6 hB14 hU c8
      have c14 := cell_of k14
      have f14 := free_of k14
      go_upto_region 15 with fail
      have u7 : Upd [B14] w6 (w6.setCell ⟨B14, 0, none⟩ (.func (.func 26) #[] #[.pointer (some ⟨B0, 0, none⟩), .pointer (some ⟨B9, 0, none⟩), .pointer (some ⟨B0 + 1 + 1, 0, none⟩), .pointer (some ⟨B10, 0, none⟩), .pointer (some ⟨B14, 0, none⟩)])) := (Upd.refl _ _).setCell (by simp) _
      replace k14 := set_one (u := .func (.func 26) #[] #[.pointer (some ⟨B0, 0, none⟩), .pointer (some ⟨B9, 0, none⟩), .pointer (some ⟨B0 + 1 + 1, 0, none⟩), .pointer (some ⟨B10, 0, none⟩), .pointer (some ⟨B14, 0, none⟩)]) k14
      generalize w6.setCell ⟨B14, 0, none⟩ (.func (.func 26) #[] #[.pointer (some ⟨B0, 0, none⟩), .pointer (some ⟨B9, 0, none⟩), .pointer (some ⟨B0 + 1 + 1, 0, none⟩), .pointer (some ⟨B10, 0, none⟩), .pointer (some ⟨B14, 0, none⟩)]) = w7 at *
      have k15' := blkU u7 k15 (by simp)
      have c15 := cell_of k15'
      have f15 := free_of k15'
      clear c14 f14
      go_upto_region 17 with fail
      have u8 : Upd [B14, B14 + 1] w7 (w7.setCell ⟨B14 + 1, 0, none⟩ (.func (.func 27) #[] #[.pointer (some ⟨B0, 0, none⟩), .pointer (some ⟨B9, 0, none⟩), .pointer (some ⟨B0 + 1 + 1, 0, none⟩), .pointer (some ⟨B10, 0, none⟩), .pointer (some ⟨B14 + 1, 0, none⟩)])) := (Upd.refl _ _).setCell (by simp) _
      replace k14 := (Below.heap_setCell w7 ⟨B14 + 1, 0, none⟩ (.func (.func 27) #[] #[.pointer (some ⟨B0, 0, none⟩), .pointer (some ⟨B9, 0, none⟩), .pointer (some ⟨B0 + 1 + 1, 0, none⟩), .pointer (some ⟨B10, 0, none⟩), .pointer (some ⟨B14 + 1, 0, none⟩)]) B14 (by simp)).trans k14
      replace k15 := set_one (u := .func (.func 27) #[] #[.pointer (some ⟨B0, 0, none⟩), .pointer (some ⟨B9, 0, none⟩), .pointer (some ⟨B0 + 1 + 1, 0, none⟩), .pointer (some ⟨B10, 0, none⟩), .pointer (some ⟨B14 + 1, 0, none⟩)]) k15'
      generalize w7.setCell ⟨B14 + 1, 0, none⟩ (.func (.func 27) #[] #[.pointer (some ⟨B0, 0, none⟩), .pointer (some ⟨B9, 0, none⟩), .pointer (some ⟨B0 + 1 + 1, 0, none⟩), .pointer (some ⟨B10, 0, none⟩), .pointer (some ⟨B14 + 1, 0, none⟩)]) = w8 at *
      clear c15 f15 k15'
      have u := (u7.mono (T := [B14, B14 + 1]) (by simp)).trans u8
      replace k3 := blkU u k3 (by simp; omega)
      replace k4 := blkU u k4 (by simp; omega)
      replace k8 := blkU u k8 (by simp; omega)
      replace k9 := blkU u k9 (by simp; omega)
      replace k10 := blkU u k10 (by simp; omega)
      replace hns2 : NS w8 bs bl bw cs F := ⟨u.cell hns2.c0 (by simp; omega), u.cell hns2.c1 (by simp; omega), u.row hns2.c2 (by simp; omega)⟩
      replace hr2 := u.row hr2 (by simp; omega)
      replace hbW2 := hbW2.trans (u.below (B := B0) (by intro q hq; simp at hq; omega) (by omega))
      have s8 := u.size
      rw [s6] at s8
      clear u u7 u8 s6
      have su : Su w8 B0 B9 B10 B14 bg cg bi bs bl bw cs k F l (rest g []) := ⟨k3, k4, k8, k9, k10, k14, k15, hns2, hr2⟩
      clear k3 k4 k8 k9 k10 k14 k15 hns2 hr2
      go_loopg [71] 0 (fun gh s71 wr => s71 = .int .i64 0 ∧ wr = w8)
      case atStart => exact ⟨rfl, rfl⟩
      case round =>
        obtain ⟨rfl, rfl⟩ := hrel
        have n54 := neq54
        have m66 := mk66 k (by omega)
        have m29z := mk29z k (by omega)
        have m29 := mk29 (k + 1) (by omega)
        simp only [Int.natCast_add, Int.cast_ofNat_Int] at m29
        have c8 := cell_of su.k8
        go_upto_region 24 with fail
        obtain ⟨kn, hb, sbn⟩ := one1 wr (.cells (Array.replicate k (.bool false)) 4)
        obtain ⟨bn, hbn⟩ : ∃ b, wr.heap.size = b := ⟨_, rfl⟩
        replace su := su.below hb
        have c8 := cell_of su.k8
        replace hbW2 := hbW2.trans (hb.mono (by omega))
        rw [hbn] at kn sbn
        simp only [hbn]
        generalize wr.alloc (.cells (Array.replicate k (.bool false)) 4) = w9 at *
        clear hb
        have cN : w9.cell? ⟨B0 + 1, 6, none⟩ = some .nilFunc := by simp [World.cell?, su.k4]
        go_upto_region 31 with fail
        obtain ⟨ko, hb, s10⟩ := one1 w9 (.cells (Array.replicate k (.int .i64 0)) 3)
        replace su := su.below hb
        have c8 := cell_of su.k8
        replace kn := blk hb kn
        replace hbW2 := hbW2.trans (hb.mono (by omega))
        rw [sbn] at ko s10
        generalize w9.alloc (.cells (Array.replicate k (.int .i64 0)) 3) = w10 at *
        clear hb sbn
        go_upto_region 32 with fail
        obtain ⟨kk, hb, s11⟩ := one1 w10 (.cells (Array.replicate k (.int .i64 0)) 3)
        replace su := su.below hb
        have c8 := cell_of su.k8
        replace kn := blk hb kn
        replace ko := blk hb ko
        replace hbW2 := hbW2.trans (hb.mono (by omega))
        rw [s10] at kk s11
        generalize w10.alloc (.cells (Array.replicate k (.int .i64 0)) 3) = w11 at *
        clear hb s10
        go_upto_region 33 with fail
        obtain ⟨kt, hb, s12⟩ := one1 w11 (.cells (Array.replicate (k + 1) (.int .i64 0)) 3)
        replace su := su.below hb
        have c8 := cell_of su.k8
        replace kn := blk hb kn
        replace ko := blk hb ko
        replace kk := blk hb kk
        replace hbW2 := hbW2.trans (hb.mono (by omega))
        rw [s11] at kt s12
        generalize w11.alloc (.cells (Array.replicate (k + 1) (.int .i64 0)) 3) = w12 at *
        clear hb s11
        have rt := row_rep kt
        have c0 := rt.cell (i := 0) (by simp)
        have f0 := rt.free 0
        go_upto_region 34 with fail
        have ut : Upd [bn + 1 + 1 + 1] w12 (w12.setCell ⟨bn + 1 + 1 + 1, 0, none⟩ (.int .i64 (-1))) := (Upd.refl _ _).setCell (by simp) _
        have rt2 := rt.set 0 (-1)
        have sut : Su (w12.setCell ⟨bn + 1 + 1 + 1, 0, none⟩ (.int .i64 (-1))) B0 B9 B10 B14 bg cg bi bs bl bw cs k F l (rest g []) :=
          ⟨blkU ut su.k3 (by simp; omega), blkU ut su.k4 (by simp; omega), blkU ut su.k8 (by simp; omega), blkU ut su.k9 (by simp; omega), blkU ut su.k10 (by simp; omega), blkU ut su.k14 (by simp; omega), blkU ut su.k15 (by simp; omega),
           ⟨ut.cell su.ns.c0 (by simp; omega), ut.cell su.ns.c1 (by simp; omega), ut.row su.ns.c2 (by simp; omega)⟩, ut.row su.row (by simp; omega)⟩
        replace kn := blkU ut kn (by simp; omega)
        replace ko := blkU ut ko (by simp)
        replace kk := blkU ut kk (by simp)
        replace hbW2 := hbW2.trans (ut.below (B := B0) (by intro q hq; simp at hq; omega) (by omega))
        have s13 : (w12.setCell ⟨bn + 1 + 1 + 1, 0, none⟩ (.int .i64 (-1))).heap.size = bn + 1 + 1 + 1 + 1 := by simpa using s12
        clear c8 kt c0 f0
        generalize w12.setCell ⟨bn + 1 + 1 + 1, 0, none⟩ (.int .i64 (-1)) = w13 at *
        clear rt ut su s12
        have c8 := cell_of sut.k8
        have H31 : Hid (Calls Ybad.prog 31 _ _ _) := newDead_ok w13 k n6 h1
        go_upto_region 36 with (go_at_call 31; refine H31.out.mono ?_; rintro e w14 ⟨bd, bp, bx, rfl, hdd, hb, d1, d2, d3⟩)
        have sut := sut.below hb
        replace c8 := cell_of sut.k8
        replace kn := blk hb kn
        replace ko := blk hb ko
        replace kk := blk hb kk
        replace rt2 := rt2.below hb rt2.lt
        replace hbW2 := hbW2.trans (hb.mono (by omega))
        obtain ⟨d4, d5, d6⟩ := hdd.lts
        have s14 := hb.size
        rw [s13] at d1 d2 d3 s14
        clear H31 hb
        go_upto_region 38 with fail
        obtain ⟨kb, hb, s15⟩ := one1 w14 (.cells (Array.replicate (k + 1) (.int .i64 0)) 3)
        obtain ⟨bb, hbb⟩ : ∃ b, w14.heap.size = b := ⟨_, rfl⟩
        replace sut := sut.below hb
        replace kn := blk hb kn
        replace ko := blk hb ko
        replace kk := blk hb kk
        replace rt2 := rt2.below hb rt2.lt
        replace hdd := hdd.upd (Upd.of_below (S := []) hb) (by simp) (by simp) (by simp)
        replace hbW2 := hbW2.trans (hb.mono (by omega))
        rw [hbb] at kb s15 s14 d4 d5 d6
        simp only [hbb]
        generalize w14.alloc (.cells (Array.replicate (k + 1) (.int .i64 0)) 3) = w15 at *
        clear hb c8
        go_upto_region 40 with fail
        obtain ⟨k29, hb, s16⟩ := one1 w15 (.cells #[.int .i64 0] 3)
        rw [s15] at k29 s16
        replace sut := sut.below hb
        replace kn := blk hb kn
        replace ko := blk hb ko
        replace kk := blk hb kk
        replace kb := blk hb kb
        replace rt2 := rt2.below hb rt2.lt
        replace hdd := hdd.upd (Upd.of_below (S := []) hb) (by simp) (by simp) (by simp)
        replace hbW2 := hbW2.trans (hb.mono (by omega))
        generalize w15.alloc (.cells #[.int .i64 0] 3) = w16 at *
        clear hb s15
        have hd0 : 0 < B0 := by
          have := World.block_lt_of_cell? W _ (hdb 0 (by omega))
          rw [hB0] at this
          exact this
        have hgl := T_len (g := g) (by rw [hn]; exact n6) k []
        have h8 : 8 ^ k ≤ 8 ^ 6 := Nat.pow_le_pow_right (by omega) n6
        have hrz : (List.replicate (k + 1) (0 : Int)).length = k + 1 := by simp
        have hfit : Fit { B := B, B0 := B0, B1 := bb + 1 + 1, l := l, n := k, g := g, B3 := B0, B4 := B0 + 1, B8 := B0 + 1 + 1, B9 := B9, B10 := B10, B14 := B14, B15 := B14 + 1, bg := bg, cg := cg, bi := bi, bs := bs, bl := bl, bw := bw, cs := cs, bn := bn, bo := bn + 1, bk := bn + 1 + 1, bt := bn + 1 + 1 + 1, bd := bd, bp := bp, bx := bx, bb := bb, B29 := bb + 1, J := J } :=
          ⟨⟨by simp only []; omega, by simp only []; omega, by simp only []; omega, by have := hdd.dp; have := hdd.dx; have := hdd.px; simp only []; omega⟩, ho, hn, h1, HFULL.out, by rw [← hB0]; exact HJ.out, HGG.out⟩
        have hst : St { B := B, B0 := B0, B1 := bb + 1 + 1, l := l, n := k, g := g, B3 := B0, B4 := B0 + 1, B8 := B0 + 1 + 1, B9 := B9, B10 := B10, B14 := B14, B15 := B14 + 1, bg := bg, cg := cg, bi := bi, bs := bs, bl := bl, bw := bw, cs := cs, bn := bn, bo := bn + 1, bk := bn + 1 + 1, bt := bn + 1 + 1 + 1, bd := bd, bp := bp, bx := bx, bb := bb, B29 := bb + 1, J := J } w16 [] [] [] F 0 ((List.replicate (k + 1) 0).set 0 (-1)) (List.replicate (k + 1) 0) ((0 : Nat) : Int) [] :=
          ⟨⟨cell_of sut.k3, cell_of sut.k8, cell_of sut.k9, cell_of sut.k10, sut.row, sut.ns, hgr.below (hbW2.mono hB), by simp only []; omega, by simp only []; omega, by simp; omega, by simp; omega⟩,
           sut.k4, cell_of sut.k14, cell_of sut.k15, kn, ⟨_, ko, by simp, by simp, by simp⟩, ⟨_, kk, by simp, by simp, by simp⟩, rt2, by simp, row_rep kb, by simp, hdd, k29, hdb.of_block (hbW2.block 0 hd0),
           H00.out _ _ (by simp only []; omega) (by simp only []; omega) (by rw [hB0]; exact hbW2), by simp only []; omega⟩
        have hlp : Lp { B := B, B0 := B0, B1 := bb + 1 + 1, l := l, n := k, g := g, B3 := B0, B4 := B0 + 1, B8 := B0 + 1 + 1, B9 := B9, B10 := B10, B14 := B14, B15 := B14 + 1, bg := bg, cg := cg, bi := bi, bs := bs, bl := bl, bw := bw, cs := cs, bn := bn, bo := bn + 1, bk := bn + 1 + 1, bt := bn + 1 + 1 + 1, bd := bd, bp := bp, bx := bx, bb := bb, B29 := bb + 1, J := J } (ext g k) w16 [] 0 (T g k []).length F ((List.replicate (k + 1) 0).set 0 (-1)) (List.replicate (k + 1) 0) 0 [] := by
          refine ⟨hst, hF2, (fun a x b e => by cases a <;> cases e), Pre.nil g, by omega, ?_, (fun i hi => by cases hi), (fun i hi => by cases hi), ?_, fun q => absurd rfl q, ?_, ?_, ?_, ?_⟩
          · rw [List.length_nil, getD_set _ _ _ _ (by omega)]; simp
          · simp [List.getD_eq_getElem?_getD]
          · simp [TT_zero, after]
          · simp [TT_zero, after, ext]
          · rw [List.length_nil]; omega
          · omega
        refine loop_ok _ hfit (ext g k) Jx (by rw [← hB0]; exact HRR.out) _ ?_ w16 [] 0 _ F _ _ 0 [] hlp _ _ _ _ _ _ _ _ _ _ _ _ _ _ _ _ _ _ _ _ _ _ _ _ _ _ _ _ _ _ _ _ _ _ _ _ _ _ _ _ _ _ _ _ _ _ _ _ _ _ _ _ _ _ _ _ _ _ _ _ _ _ _ _ _ _ _ _ _ _ _ _ _ _ _ _ _ _ _ _ _ _ _ _ _ _ _ _ _ _ _ _ _ _ _ _ _ _ _ _ _ _ _ _ _ _ _ _ _ _ _ _ _ _ _ _ _ _ _ _ _ _ _ _ _ _ _ _ _ _ _ _ _ _ _ _ _ _ _ _ _ _ _ _ _ _ _ _ _ _ _ _ _ _ _ _ _ _ _ _ _ _ _ _ _ _ _ _ _ _ _ _ _ _ _ _ _ _ _ _ _ _ _ _ _ _ _ _ _ _ _ _ _ _ _ _ _ _ _ _ _ _ _ _ _ _ _ _ _ _ _ _ _ _ _ _ _ _ _ _ _ _ _ _ _ _ _ _ _ _ _ _ _ _ _ _ _ _ _ _ _ _ _ _ _ _ _ _ _ _ _ _ _ _ _ _ _ _ _ _
        intro a w' hd hpost
        exact bodyPost_ret (P := Ybad.prog) (fn := Ybad.f22) (R := fun e W' => (∃ x y, e = .returned (.tuple #[x, y])) ∧ ∃ B1, W.heap.size ≤ B1 ∧ (J B1 (ext g k) W' ∨ ∃ pre, pre <+: ext g k ∧ pre ≠ [] ∧ Jx B1 pre W')) (results_tmp2 (t := 6) (u := 7) rfl _ _ _) hd ⟨⟨_, _, rfl⟩, bb + 1 + 1, by omega, hpost⟩
end Go.Proofs.YbulkbhcsDoor
