import Derived.Test.YbulkbhcsDoorPush
import Derived.Test.YbulkbhcsDoorGraph
namespace Go.Proofs.YbulkbhcsDoor
open Go.RowKit

/-- Behind the first loop's i rounds. -/
def first (g : List (List Nat)) (i : Nat) : List Nat := (List.range i).filter (freeB g [])
theorem first_succ (g : List (List Nat)) (i : Nat) : first g (i + 1) = if freeB g [] i then first g i ++ [i] else first g i := by
  unfold first
  rw [List.range_succ, List.filter_append]
  split <;> rename_i h <;> simp [h]
theorem first_len (g : List (List Nat)) (i : Nat) : (first g i).length ≤ i := by
  have := List.length_filter_le (freeB g []) (List.range i)
  simpa [first] using this

/-- Ahead of an append of y to the heap's row. -/
theorem app_pre {w : World} {bf b : Nat} {h : List Nat} (hp : HpAt w bf b h) (y : Nat) : ∃ sv cap, w.heap[bf]? = some (.cells #[sv] 60 (0, 0)) ∧
    ((sv = .slice none 0 0 ∧ h = []) ∨ (sv = .slice (some ⟨b, 0, none⟩) h.length cap ∧ cap ≤ maxLen ∧ Hb (w.alloc (.cells #[.int .i64 (y : Int)] 3)) b cap h)) ∧
    (w.alloc (.cells #[.int .i64 (y : Int)] 3)).cell? ⟨w.heap.size, 0, none⟩ = some (.int .i64 (y : Int)) := by
  obtain ⟨sv, cap, hf, hsv⟩ := hp.form
  refine ⟨sv, cap, hf, ?_, ?_⟩
  · rcases hsv with h1 | ⟨h1, h2, h3⟩
    · exact .inl h1
    · exact .inr ⟨h1, h2, h3.of_block (Below.heap_alloc _ _ _ h3.lt)⟩
  · have := heap_new w (.cells #[.int .i64 (y : Int)] 3)
    unfold World.cell?
    dsimp only
    rw [this]
    rfl
theorem cell_new1 (w : World) (y : Nat) : (w.alloc (.cells #[.int .i64 (y : Int)] 3)).cell? ⟨w.heap.size, 0, none⟩ = some (.int .i64 (y : Int)) := by
  have := heap_new w (.cells #[.int .i64 (y : Int)] 3)
  unfold World.cell?
  dsimp only
  rw [this]
  rfl
/-- Behind it. -/
theorem app_post {w w1 : World} {bf b b' cap' m : Nat} {h : List Nat} {y : Nat} {sv : Value} (hbb : bf ≠ b) (hf : w.heap[bf]? = some (.cells #[sv] 60 (0, 0))) (k1 : cap' ≤ maxLen) (k2 : Hb w1 b' cap' (h ++ [y]))
    (k3 : b' = b ∨ w.heap.size + 1 ≤ b') (k4 : Upd [b] (w.alloc (.cells #[.int .i64 (y : Int)] 3)) w1) (hm : h.length = m) :
    w1.heap[bf]? = some (.cells #[sv] 60 (0, 0)) ∧ HpAt (w1.setCell ⟨bf, 0, none⟩ (.slice (some ⟨b', 0, none⟩) (m + 1) cap')) bf b' (h ++ [y]) ∧ Upd [bf, b] w (w1.setCell ⟨bf, 0, none⟩ (.slice (some ⟨b', 0, none⟩) (m + 1) cap')) ∧ bf ≠ b' := by
  have hfl := lt_of_block hf
  have hbb' : bf ≠ b' := by omega
  have h1 : w1.heap[bf]? = some (.cells #[sv] 60 (0, 0)) := (k4.same bf (by simp; omega) (by simpa using hbb)).trans ((Below.heap_alloc _ _ _ hfl).trans hf)
  refine ⟨h1, ⟨hbb', .inr ⟨cap', ?_, k1, k2.of_block (Below.heap_setCell _ _ _ _ (by simpa using Ne.symm hbb'))⟩⟩, (((Upd.refl _ _).alloc _).trans (k4.mono (by simp))).setCell (by simp) _, hbb'⟩
  refine (heap_set h1 _).trans ?_
  simp [hm]
structure O1 (w wr : World) (g : List (List Nat)) (bi bf b : Nat) (h : List Nat) : Prop where
  below : Below w.heap.size w wr
  row : Row wr bi 3 .i64 (cnt g.length (rest g []))
  hp : HpAt wr bf b h
  gi : w.heap.size ≤ bi
  gf : bi < bf
  gb : bf < b

theorem HpAt.upd {w w' : World} {bf b : Nat} {h S : List Nat} (hp : HpAt w bf b h) (u : Upd S w w') (h1 : bf ∉ S) (h2 : b ∉ S) : HpAt w' bf b h := by
  obtain ⟨hb, ⟨a1, a2⟩ | ⟨cap, a1, a2, a3⟩⟩ := hp
  · exact ⟨hb, .inl ⟨(u.same bf (lt_of_block a1) h1).trans a1, a2⟩⟩
  · exact ⟨hb, .inr ⟨cap, (u.same bf (lt_of_block a1) h1).trans a1, a2, a3.of_block (u.same b a3.lt h2)⟩⟩
/-- What Order holds in memory: the counts E, the order q, the heap h. -/
structure OM (w wr : World) (n bi bf b bo : Nat) (E q h : List Nat) : Prop where
  below : Below w.heap.size w wr
  row : Row wr bi 3 .i64 (cnt n E)
  hp : HpAt wr bf b h
  ord : Hb wr bo n q
  gi : w.heap.size ≤ bi
  gf : w.heap.size ≤ bf
  gb : w.heap.size ≤ b
  go : w.heap.size ≤ bo
  d1 : bi ≠ bf
  d2 : bi ≠ b
  d3 : bo ≠ bf
  d4 : bo ≠ b
  d5 : bo ≠ bi
section
variable {w wr w' : World} {n bi bf b b' bo : Nat} {E q h h' : List Nat}
theorem OM.heap (o : OM w wr n bi bf b bo E q h) (u : Upd [bf, b] wr w') (hp : HpAt w' bf b' h') (hb : b' = b ∨ wr.heap.size ≤ b') : OM w w' n bi bf b' bo E q h' := by
  obtain ⟨a1, a2, a3, a4, a5, a6, a7, a8, d1, d2, d3, d4, d5⟩ := o
  have l1 := a2.lt
  have l2 := a4.lt
  have l3 := a1.size
  exact ⟨a1.trans (u.below (by intro k hk; simp at hk; omega) (by omega)), u.row a2 (by simp; omega), hp, a4.of_block (u.same bo l2 (by simp; omega)), a5, a6, by omega, a8, d1, by omega, d3, by omega, d5⟩
theorem OM.setRow (o : OM w wr n bi bf b bo E q h) {E' : List Nat} {i : Nat} {x : Int} (he : (cnt n E).set i x = cnt n E') : OM w (wr.setCell ⟨bi, i, none⟩ (.int .i64 x)) n bi bf b bo E' q h := by
  obtain ⟨a1, a2, a3, a4, a5, a6, a7, a8, d1, d2, d3, d4, d5⟩ := o
  have u : Upd [bi] wr (wr.setCell ⟨bi, i, none⟩ (.int .i64 x)) := (Upd.refl _ _).setCell (by simp) _
  exact ⟨a1.setCell a5 _, by rw [← he]; exact a2.set i x, a3.upd u (by simp; omega) (by simp; omega), a4.of_block (u.same bo a4.lt (by simp; omega)), a5, a6, a7, a8, d1, d2, d3, d4, d5⟩
theorem OM.app (o : OM w wr n bi bf b bo E q h) {q' : List Nat} (u : Upd [bo] wr w') (hh : Hb w' bo n q') : OM w w' n bi bf b bo E q' h := by
  obtain ⟨a1, a2, a3, a4, a5, a6, a7, a8, d1, d2, d3, d4, d5⟩ := o
  have l3 := a1.size
  exact ⟨a1.trans (u.below (by intro k hk; simp at hk; omega) (by omega)), u.row a2 (by simp; omega), a3.upd u (by simp; omega) (by simp; omega), hh, a5, a6, a7, a8, d1, d2, d3, d4, d5⟩
end
theorem hb_new (w : World) (n : Nat) : Hb (w.alloc (.cells (Array.replicate n (.int .i64 0)) 3)) w.heap.size n [] :=
  ⟨_, heap_new _ _, by simp, by simp, by simp⟩
theorem OM.start {w wr : World} {g : List (List Nat)} {bi bf b n : Nat} {h : List Nat} (hn : g.length = n) (o : O1 w wr g bi bf b h) : ∃ b', OM w (wr.alloc (.cells (Array.replicate n (.int .i64 0)) 3)) n bi bf b' wr.heap.size (rest g []) [] h := by
  obtain ⟨a1, a2, a3, a4, a5, a6⟩ := o
  have l1 := a2.lt
  have l3 := a1.size
  have u : Upd [] wr (wr.alloc (.cells (Array.replicate n (.int .i64 0)) 3)) := (Upd.refl _ _).alloc _
  have hrow : Row (wr.alloc (.cells (Array.replicate n (.int .i64 0)) 3)) bi 3 .i64 (cnt n (rest g [])) := by rw [← hn] at u ⊢; exact u.row a2 (by simp)
  obtain ⟨hb, ⟨q1, q2⟩ | ⟨cap, q1, q2, q3⟩⟩ := a3
  · have l4 := lt_of_block q1
    exact ⟨wr.heap.size + 1, a1.alloc l3 _, hrow, ⟨by omega, .inl ⟨(Below.heap_alloc _ _ _ l4).trans q1, q2⟩⟩, hb_new _ _, a4, by omega, by omega, l3, by omega, by omega, by omega, by omega, by omega⟩
  · have l4 := lt_of_block q1
    have l5 := q3.lt
    exact ⟨b, a1.alloc l3 _, hrow, ⟨by omega, .inr ⟨cap, (Below.heap_alloc _ _ _ l4).trans q1, q2, q3.of_block (Below.heap_alloc _ _ _ l5)⟩⟩, hb_new _ _, a4, by omega, by omega, l3, by omega, by omega, by omega, by omega, by omega⟩
theorem first_heap (g : List (List Nat)) (h6 : g.length ≤ 6) : IsHeap (first g g.length) :=
  IsHeap.sorted (List.Pairwise.filter _ List.pairwise_lt_range) (fun x hx => by
    have := List.mem_range.1 (List.mem_filter.1 hx).1
    omega)
theorem first_mem (g : List (List Nat)) (u : Nat) : u ∈ first g g.length ↔ Free g [] u := mem_frees (p := [])

theorem flat_len {f : Nat → List Nat} (hf : ∀ v, (f v).length ≤ 6) : ∀ l : List Nat, (l.flatMap f).length ≤ 6 * l.length
  | [] => by simp
  | x :: l => by
    have := flat_len hf l
    have := hf x
    simp only [List.flatMap_cons, List.length_append, List.length_cons]; omega
theorem rest_len {g : List (List Nat)} (ho : Ok g) (p : List Nat) : (rest g p).length ≤ 6 * g.length := by
  have h1 := flat_len ho.len ((List.range g.length).filter (fun v => !p.contains v))
  have h2 := List.length_filter_le (fun v => !p.contains v) (List.range g.length)
  rw [List.length_range] at h2
  unfold rest
  omega

set_option maxHeartbeats 1000000 in
set_option maxRecDepth 100000 in
theorem order_ok (w : World) (B bg cap : Nat) (g : List (List Nat)) (ho : Ok g) (hB : B ≤ w.heap.size) (hg : Gr B w bg g) :
    Calls Ybad.prog 15 #[.slice (some ⟨bg, 0, none⟩) g.length cap] w fun e w' => Below w.heap.size w w' ∧
      (((greedy g g.length []).length < g.length ∧ e = .returned (.tuple #[.slice none 0 0, .bool false])) ∨
       ((greedy g g.length []).length = g.length ∧ ∃ bo, w.heap.size ≤ bo ∧ e = .returned (.tuple #[.slice (some ⟨bo, 0, none⟩) g.length g.length, .bool true]) ∧ Hb w' bo g.length (greedy g g.length []))) := by
  have n6 := ho.n6
  obtain ⟨n, hn⟩ : ∃ n, g.length = n := ⟨_, rfl⟩
  have hc := indeg_ok w B bg cap g ho hB hg
  rw [hn] at hc n6 ⊢
  have HG : Hid (g.length = n) := hn
  have m1 := mk29z n (by omega)
  go_enter Ybad.func15, Ybad.ntmps15
  go_upto_region 3 with (go_at_call 19; refine hc.mono ?_; rintro e w1 ⟨bi, rfl, hr1, hb1, hbi⟩)
  have hrn : upto g n = rest g [] := by rw [rest_nil, hn]
  rw [hrn] at hr1
  have hS : O1 w (w1.alloc (.cells #[.slice none 0 0] 60)) g bi w1.heap.size (w1.heap.size + 1) [] :=
    ⟨hb1.alloc hb1.size _, by rw [hn]; exact hr1.of_block (Below.heap_alloc _ _ _ hr1.lt), ⟨by omega, .inl ⟨heap_new _ _, rfl⟩⟩, hbi, hr1.lt, by omega⟩
  generalize w1.alloc (.cells #[.slice none 0 0] 60) = w2 at *
  generalize w1.heap.size = bf at *
  clear hc hr1 hrn
  go_upto_region 4 with fail
  go_loopg [15] n (fun gh s15 wr => ∃ (i b : Nat), i ≤ n ∧ gh = n - i ∧ s15 = .int .i64 i ∧ O1 w wr g bi bf b (first g i))
  case atStart => exact ⟨0, _, by omega, by omega, rfl, hS⟩
  case round =>
    obtain ⟨i, b, hi, rfl, rfl, hO⟩ := hrel
    clear hS
    by_cases hlt : i < n
    · have c1 := hO.row.cell (i := i) (by rw [cnt_length]; omega)
      rw [cnt_get _ (by omega)] at c1
      have b1 : (i : Int) < (n : Int) := by omega
      have hfs := first_succ g i
      by_cases hf : Free g [] i
      · rw [if_pos (freeB_iff.2 hf)] at hfs
        obtain ⟨_, _, hf3⟩ := hf
        rw [hf3] at c1
        obtain ⟨sv, cp, hF, hA, hB'⟩ := app_pre hO.hp i
        have HA : Hid (_ ∨ _) := hA
        have HB : Hid (_ = _) := hB'
        have hl6 := first_len g i
        obtain ⟨m, hm⟩ : ∃ m, (first g i).length = m := ⟨_, rfl⟩
        have cf : wr.cell? ⟨bf, 0, none⟩ = some sv := by simp [World.cell?, hF]
        have hfl := lt_of_block hF
        clear hA hB'
        go_wp2_with (refine wpList_push rfl (.tmp 22) (.tmp 24) 60 Ybad.underlying60 rfl sv rfl b cp (first g i) HA.out wr.heap.size rfl i HB.out (by omega) ?_; intro b' cap' w1 k1 k2 k3 k4 _; rw [World.size_alloc] at k3; obtain ⟨q1, q2, q3, q4⟩ := app_post (b := b) (by have := hO.gb; omega) hF k1 k2 k3 k4 hm; have q5 : w1.cell? ⟨bf, 0, none⟩ = some sv := (by simp [World.cell?, q1]); have q6 : w1.frozen? ⟨bf, 0, none⟩ = false := (by simp [World.frozen?, q1]); rw [hm])
        go_roundg (n - (i + 1))
        case measure => omega
        case rel =>
          have g1 := hO.gi
          have g2 := hO.gf
          have g3 := hO.gb
          have g4 := hO.below.size
          refine ⟨i + 1, b', by omega, rfl, by go_num, ?_⟩
          rw [hfs]
          exact ⟨hO.below.trans (q3.below (by intro k hk; simp at hk; omega) (by omega)), q3.row hO.row (by simp; omega), q2, g1, g2, by omega⟩
      · rw [if_neg (fun h => hf (freeB_iff.1 h))] at hfs
        have hne : (rest g []).count i ≠ 0 := fun e => hf ⟨by omega, by simp, e⟩
        have hne' : (((rest g []).count i : Int) == 0) = false := by rw [beq_eq_false_iff_ne]; omega
        generalize (rest g []).count i = c at *
        go_wp2_with fail
        go_roundg (n - (i + 1))
        case measure => omega
        case rel => exact ⟨i + 1, b, by omega, rfl, by go_num, by rw [hfs]; exact hO⟩
    · obtain rfl : i = n := by omega
      go_upto_region 10 with fail
      obtain ⟨b2, hM0⟩ := OM.start HG.out hO
      have hH0 := first_heap g (by rw [HG.out]; omega)
      have hmem0 := first_mem g
      rw [HG.out] at hH0 hmem0
      generalize hfi : first g i = h0 at *
      clear hfi hO
      obtain ⟨bo, hbo⟩ : ∃ bo, wr.heap.size = bo := ⟨_, rfl⟩
      rw [hbo] at hM0
      simp only [hbo]
      generalize wr.alloc (.cells (Array.replicate i (.int .i64 0)) 3) = w3 at *
      clear hbo m1
      go_loopg [2] (i + 1) (fun gh s2 wx => ∃ (p h : List Nat) (b : Nat), gh = i + 1 - p.length ∧ s2 = .slice (some ⟨bo, 0, none⟩) p.length i ∧ OM w wx i bi bf b bo (rest g p) p h ∧ IsHeap h ∧ (∀ u, u ∈ h ↔ Free g p u) ∧ Pre g p ∧ greedy g (i - p.length) p = greedy g i [])
      case atStart => exact ⟨[], h0, b2, rfl, rfl, hM0, hH0, hmem0, Pre.nil g, rfl⟩
      case round =>
        obtain ⟨p, h, b3, rfl, rfl, hM, hH, hmem, hP, hgr⟩ := hrel
        clear hM0 hH0 hmem0
        have hPl := hP.len
        rw [HG.out] at hPl
        obtain ⟨sv, cp, hF, hsv⟩ := hM.hp.form
        have cf : wr.cell? ⟨bf, 0, none⟩ = some sv := by simp [World.cell?, hF]
        by_cases hne : h = []
        · subst hne
          have HGR : Hid (greedy g i [] = p) := by
            show greedy g i [] = p
            rw [← hgr]; exact greedy_stop (fun u hu => by have := (hmem u).2 hu; cases this) _
          clear hgr
          rcases hsv with ⟨rfl, _⟩ | ⟨rfl, _, _⟩
          · by_cases hpl : p.length < i
            · have b5 : (p.length : Int) < (i : Int) := by omega
              go_wp2_with fail
              refine bodyPost_ret (results_tmp2 rfl _ _ _) rfl ?_
              exact ⟨hM.below, .inl ⟨by rw [HGR.out]; exact hpl, rfl⟩⟩
            · have b5 : ¬ (p.length : Int) < (i : Int) := by omega
              have b6 : p.length = i := by omega
              go_wp2_with fail
              refine bodyPost_ret (results_tmp2 rfl _ _ _) rfl ?_
              exact ⟨hM.below, .inr ⟨by rw [HGR.out]; exact b6, bo, hM.go, rfl, by rw [HGR.out]; exact hM.ord⟩⟩
          · by_cases hpl : p.length < i
            · have b5 : (p.length : Int) < (i : Int) := by omega
              go_wp2_with fail
              refine bodyPost_ret (results_tmp2 rfl _ _ _) rfl ?_
              exact ⟨hM.below, .inl ⟨by rw [HGR.out]; exact hpl, rfl⟩⟩
            · have b5 : ¬ (p.length : Int) < (i : Int) := by omega
              have b6 : p.length = i := by omega
              go_wp2_with fail
              refine bodyPost_ret (results_tmp2 rfl _ _ _) rfl ?_
              exact ⟨hM.below, .inr ⟨by rw [HGR.out]; exact b6, bo, hM.go, rfl, by rw [HGR.out]; exact hM.ord⟩⟩
        · have hpos : 0 < h.length := List.length_pos_iff.2 hne
          have hpos' : (0 : Int) < (h.length : Int) := by omega
          obtain ⟨pH, pL, pM, pI⟩ := hH.pop hne
          obtain ⟨v, hv⟩ : ∃ v, h.getD 0 0 = v := ⟨_, rfl⟩
          have hvm : v ∈ h := by rw [← hv, List.getD_eq_getElem?_getD, List.getElem?_eq_getElem hpos]; exact List.getElem_mem _
          have hvF := (hmem v).1 hvm
          have hvn : v < i := by have := hvF.1; rw [HG.out] at this; exact this
          have hP' := hP.place hvF
          have hl' := hP'.len
          rw [HG.out] at hl'
          simp only [List.length_append, List.length_singleton] at hl'
          have hgs : Hid (greedy g (i - (p.length + 1)) (p ++ [v]) = greedy g i []) := by
            show greedy g (i - (p.length + 1)) (p ++ [v]) = greedy g i []
            rw [← hgr, show i - p.length = (i - (p.length + 1)) + 1 from by omega]
            exact (greedy_step hvF (fun u hu => by rw [← hv]; exact pM u ((hmem u).2 hu))).symm
          have hpop := pop_ok wr bf b3 h hH hne hM.hp
          rw [hv] at hpop pI
          have HPOP : Hid (Calls _ _ _ _ _) := hpop
          have hpI : Hid (∀ u, u ∈ popF h ↔ FreeK g p v 0 u) := fun u => by
            rw [freeK_zero hvF, ← hmem u]
            by_cases h6 : u < 6
            · exact pI u h6
            · exact ⟨fun hx => absurd (pH.lt u hx) h6, fun hx => absurd (hH.lt u hx.1) h6⟩
          clear hpop hgr pI pM
          rcases hsv with ⟨_, h2⟩ | ⟨rfl, _, _⟩
          · exact absurd h2 hne
          go_upto_region 13 with (first
            | (go_at_call 20; refine HPOP.out.mono ?_; rintro e wp ⟨rfl, hp', hu⟩; have hM2 := hM.heap hu hp' (.inl rfl); clear hp' hu)
            | (refine wpList_push rfl (.tmp 34) (.tmp 36) 29 Ybad.underlying29 rfl (.slice (some ⟨bo, 0, none⟩) p.length i) rfl bo i p (.inr ⟨rfl, by unfold maxLen; omega, hM2.ord.of_block (Below.heap_alloc _ _ _ hM2.ord.lt)⟩) wp.heap.size rfl v (cell_new1 _ _) (by omega) ?_; intro b' cap' w4 k1 k2 k3 k4 k5; obtain ⟨e1, e2, _⟩ := k5 (fun e => by cases e) (by omega); rw [e1, e2] at k2 ⊢; have hM3 := hM2.app (((Upd.refl _ _).alloc _).trans k4) k2; clear k1 k2 k3 k4 k5 e1 e2))
          obtain ⟨bL, cL, g1, g2, g3⟩ := (hg.below (hM3.below.mono hB)).at' v (by rw [HG.out]; exact hvn)
          have hlen := ho.len v
          have hin := ho.lt v (by rw [HG.out]; exact hvn)
          have hE : cnt i (rest g p) = cnt i (g.getD v [] ++ rest g (p ++ [v])) := by
            unfold cnt
            apply List.map_congr_left
            intro u _
            rw [rest_place g hvF.1 hvF.2.1 u, List.count_append]
          obtain ⟨L, hL⟩ : ∃ L, g.getD v [] = L := ⟨_, rfl⟩
          rw [hL] at g2 g3 hlen hin hE
          have HL : Hid (g.getD v [] = L) := hL
          have HG3 : Hid (∀ i, i < L.length → w4.cell? ⟨bL, i, none⟩ = some (.int .i64 ((L.getD i 0 : Nat) : Int))) := g3
          have HIN : Hid (∀ u ∈ L, u < g.length) := hin
          have hM4 : OM w w4 i bi bf b3 bo (L ++ rest g (p ++ [v])) (p ++ [v]) (popF h) := by
            obtain ⟨a1, a2, a3, a4, a5, a6, a7, a8, d1, d2, d3, d4, d5⟩ := hM3
            exact ⟨a1, by rw [← hE]; exact a2, a3, a4, a5, a6, a7, a8, d1, d2, d3, d4, d5⟩
          obtain ⟨m, hm⟩ : ∃ m, L.length = m := ⟨_, rfl⟩
          rw [hm] at g2
          have b7 : (v : Int) < (i : Int) := by omega
          have hw4 : Below w.heap.size w w4 := hM4.below
          clear hL g3 hin hE hM3 hM2 cf hF
          go_upto_region 14 with fail
          clear g2
          go_loopg [43] m (fun gh s43 wx => ∃ (k b : Nat) (h' : List Nat), k ≤ m ∧ gh = m - k ∧ s43 = .int .i64 k ∧ OM w wx i bi bf b bo (L.drop k ++ rest g (p ++ [v])) (p ++ [v]) h' ∧ IsHeap h' ∧ (∀ u, u ∈ h' ↔ FreeK g p v k u))
          case atStart => exact ⟨0, b3, popF h, by omega, by omega, rfl, by simpa using hM4, pH, hpI.out⟩
          case round =>
            obtain ⟨k, b5, h', hk, rfl, rfl, hM5, hH5, hm5⟩ := hrel
            clear hM4 pH hpI
            by_cases hlt2 : k < m
            · obtain ⟨u, hu⟩ : ∃ u, L.getD k 0 = u := ⟨_, rfl⟩
              have huL : u ∈ L := by rw [← hu, List.getD_eq_getElem?_getD, List.getElem?_eq_getElem (by omega)]; exact List.getElem_mem _
              have hun := HIN.out u huL
              have hfr := hP.fresh hvF (u := u) (by rw [HL.out]; exact huL)
              have hstep := fun x => freeK_step (g := g) (p := p) (v := v) (k := k) (x := x) (by rw [HL.out]; omega) (by rw [HL.out, hu]; exact hun) (by rw [HL.out, hu]; exact hfr)
              rw [HL.out, hu] at hstep
              have hdr := drop_get (L := L) (k := k) (by omega)
              rw [hu] at hdr
              have hl := HG3.out k (by omega)
              rw [hu] at hl
              have hl2 : wr.cell? ⟨bL, k, none⟩ = some (.int .i64 (u : Int)) := by
                have e1 : wr.cell? ⟨bL, k, none⟩ = w.cell? ⟨bL, k, none⟩ := hM5.below.cell (p := ⟨bL, k, none⟩) (by show bL < w.heap.size; omega)
                have e2 : w4.cell? ⟨bL, k, none⟩ = w.cell? ⟨bL, k, none⟩ := hw4.cell (p := ⟨bL, k, none⟩) (by show bL < w.heap.size; omega)
                rw [e1, ← e2]; exact hl
              rw [hdr, List.cons_append] at hM5
              have huk : ¬ FreeK g p v k u := fun hx => by
                have h3 := hx.2.2
                rw [HL.out, hdr, List.cons_append, List.count_cons_self] at h3
                omega
              generalize hR : L.drop (k + 1) ++ rest g (p ++ [v]) = R at *
              obtain ⟨c, hc⟩ : ∃ c, R.count u = c := ⟨_, rfl⟩
              have hin : u < i := by rw [HG.out] at hun; exact hun
              have hrc := hM5.row.cell (i := u) (by rw [cnt_length]; omega)
              rw [cnt_get _ hin, List.count_cons_self, hc] at hrc
              simp only [Int.natCast_add, Int.cast_ofNat_Int] at hrc
              have hrf := hM5.row.free u
              have hM6 := hM5.setRow (i := u) (x := (c : Int)) (by rw [← hc]; exact cnt_less R u)
              have hrc2 := hM6.row.cell (i := u) (by rw [cnt_length]; omega)
              rw [cnt_get _ hin, hc] at hrc2
              have hcl : c ≤ 100 := by
                have h1 := List.count_le_length (a := u) (l := R)
                have h2 := rest_len ho (p ++ [v])
                rw [← hR, List.length_append, List.length_drop] at h1
                rw [HG.out] at h2
                rw [hR] at h1
                omega
              have b8 : (u : Int) < (i : Int) := by omega
              have b9 : (k : Int) < (m : Int) := by omega
              have hu' : u ∉ h' := fun hx => huk ((hm5 u).1 hx)
              by_cases hc0 : c = 0
              · subst hc0
                obtain ⟨s1, s2, s3⟩ := hH5.push hu' (by omega)
                have hl6 : h'.length < 6 := by have := small s1.nodup s1.lt; omega
                have hpush := push_ok _ bf b5 h' u hl6 hM6.hp
                have HPU : Hid (Calls Ybad.prog 21 _ (wr.setCell ⟨bi, u, none⟩ (.int .i64 0)) _) := hpush
                have hrc3 : (wr.setCell ⟨bi, u, none⟩ (.int .i64 0)).cell? ⟨bi, u, none⟩ = some (.int .i64 0) := hrc2
                have HM6 : OM w (wr.setCell ⟨bi, u, none⟩ (.int .i64 0)) i bi bf b5 bo R (p ++ [v]) h' := hM6
                replace hrc : wr.cell? ⟨bi, u, none⟩ = some (.int .i64 1) := hrc
                have hmem' : Hid (∀ x, x ∈ pushF h' u ↔ FreeK g p v (k + 1) x) := fun x => by
                  rw [hstep x, ← hm5 x]
                  have e : (x = u ∧ List.count u R = 0) ↔ x = u := ⟨fun h => h.1, fun h => ⟨h, by omega⟩⟩
                  rw [e]
                  by_cases h6 : x < 6
                  · exact s3 x h6
                  · exact ⟨fun hx => absurd (s1.lt x hx) h6, fun hx => by
                      rcases hx with hx | rfl
                      · exact absurd (hH5.lt x hx) h6
                      · omega⟩
                clear hpush hstep hc hdr hl hm5 hrc2 hM6
                go_wp2_with (go_at_call 21; refine HPU.out.mono ?_; rintro e w6 ⟨⟨_, rfl⟩, b', hb', hp', hup⟩; have hM7 := HM6.heap hup hp' hb'; clear hb' hp' hup)
                go_roundg (m - (k + 1))
                case measure => omega
                case rel => exact ⟨k + 1, b', pushF h' u, by omega, rfl, by go_num, by rw [hR]; exact hM7, s1, hmem'.out⟩
              · have hc0' : ((c : Int) == 0) = false := by rw [beq_eq_false_iff_ne]; omega
                have hmem' : Hid (∀ x, x ∈ h' ↔ FreeK g p v (k + 1) x) := fun x => by
                  rw [hstep x, ← hm5 x]
                  exact ⟨fun h => .inl h, fun h => h.elim id (fun h => by omega)⟩
                clear hstep hc hdr hl hm5
                go_wp2_with fail
                go_roundg (m - (k + 1))
                case measure => omega
                case rel => exact ⟨k + 1, b5, h', by omega, rfl, by go_num, by rw [hR]; exact hM6, hH5, hmem'.out⟩
            · obtain rfl : k = m := by omega
              have hdr : L.drop k = [] := List.drop_eq_nil_of_le (by omega)
              rw [hdr, List.nil_append] at hM5
              have hmem' : Hid (∀ x, x ∈ h' ↔ Free g (p ++ [v]) x) := fun x => by
                rw [hm5 x, ← freeK_all, HL.out, hm]
              clear hm5 hdr
              go_wp2_with fail
              go_roundg (i + 1 - (p.length + 1))
              case measure => omega
              case rel => exact ⟨p ++ [v], h', b5, by simp, by simp, hM5, hH5, hmem'.out, hP', by simpa using hgs.out⟩
end Go.Proofs.YbulkbhcsDoor
