import Derived.Test.YbulkbhcsDoorSer
namespace Go.Proofs.YbulkbhcsDoor
open Go.RowKit

theorem one1b (w : World) (a : Obj) : (w.alloc a).heap[w.heap.size]? = some a ∧ Below w.heap.size w (w.alloc a) ∧ (w.alloc a).heap.size = w.heap.size + 1 :=
  ⟨heap_new w a, (Below.refl _ _).alloc (Nat.le_refl _) _, by simp⟩
/-- The successors of the first nodes lie there, none in the block of the paths itself. -/
structure Gq (w : World) (bp n : Nat) (g : List (List Nat)) : Prop where
  blk : ∃ cs : Array Value, cs.size = n ∧ w.heap[bp]? = some (.cells cs 29 (0, 0))
  at' : ∀ v, v < g.length → ∃ b cap, b < w.heap.size ∧ b ≠ bp ∧ w.cell? ⟨bp, v, none⟩ = some (.slice (some ⟨b, 0, none⟩) (g.getD v []).length cap) ∧
    ∀ i, i < (g.getD v []).length → w.cell? ⟨b, i, none⟩ = some (.int .i64 (((g.getD v []).getD i 0 : Nat) : Int))
  sm : ∀ L ∈ g, L.length ≤ 6 ∧ ∀ u ∈ L, u < n
theorem Gq.below {w w' : World} {bp n : Nat} {g : List (List Nat)} (h : Gq w bp n g) (hb : Below w.heap.size w w') : Gq w' bp n g := by
  obtain ⟨⟨cs, h1, h2⟩, h3, h4⟩ := h
  have hlt := lt_of_block h2
  refine ⟨⟨cs, h1, (hb.block bp hlt).trans h2⟩, fun v hv => ?_, h4⟩
  obtain ⟨b, cap, k1, k2, k3, k4⟩ := h3 v hv
  exact ⟨b, cap, Nat.lt_of_lt_of_le k1 hb.size, k2, (hb.cell (p := ⟨bp, v, none⟩) hlt).trans k3, fun i hi => (hb.cell (p := ⟨b, i, none⟩) k1).trans (k4 i hi)⟩
theorem Gq.snoc {w : World} {bp n : Nat} {g : List (List Nat)} (h : Gq w bp n g) (hk : g.length < n) {b cap : Nat} {L : List Nat} (hb : b ≠ bp) (hL : Hb w b cap L) (h6 : L.length ≤ 6) (hn : ∀ u ∈ L, u < n) :
    Gq (w.setCell ⟨bp, g.length, none⟩ (.slice (some ⟨b, 0, none⟩) L.length cap)) bp n (g ++ [L]) := by
  obtain ⟨⟨cs, h1, h2⟩, h3, h4⟩ := h
  have hh := heap_set (o := g.length) h2 (.slice (some ⟨b, 0, none⟩) L.length cap)
  have hoth : ∀ k, k ≠ bp → (w.setCell ⟨bp, g.length, none⟩ (.slice (some ⟨b, 0, none⟩) L.length cap)).heap[k]? = w.heap[k]? := fun k hk => Below.heap_setCell _ _ _ _ hk
  refine ⟨⟨_, by simpa using h1, hh⟩, fun v hv => ?_, fun M hM => ?_⟩
  · rw [List.length_append, List.length_singleton] at hv
    by_cases e : v = g.length
    · subst e
      have hg : (g ++ [L]).getD g.length [] = L := by simp [List.getD_eq_getElem?_getD]
      rw [hg]
      refine ⟨b, cap, by simpa using hL.lt, hb, ?_, fun i hi => ?_⟩
      · simp [World.cell?, hh, h1, hk]
      · exact (World.cell?_of_block (w := w) (hoth b hb)).trans (hL.cell hi)
    · have hg : (g ++ [L]).getD v [] = g.getD v [] := by
        simp only [List.getD_eq_getElem?_getD]
        rw [List.getElem?_append_left (by omega)]
      rw [hg]
      obtain ⟨b', cap', k1, k2, k3, k4⟩ := h3 v (by omega)
      refine ⟨b', cap', by simpa using k1, k2, ?_, fun i hi => (World.cell?_of_block (w := w) (hoth b' k2)).trans (k4 i hi)⟩
      have hcv : w.cell? ⟨bp, v, none⟩ = cs[v]? := by simp [World.cell?, h2]
      rw [hcv] at k3
      simp [World.cell?, hh]
      rw [Array.getElem?_setIfInBounds, if_neg (by omega)]
      exact k3
  · rcases List.mem_append.1 hM with h | h
    · exact h4 M h
    · simp at h
      subst h
      exact ⟨h6, hn⟩

set_option maxHeartbeats 1000000 in
set_option maxRecDepth 100000 in
theorem build_ok (w : World) (n : Nat) (h1 : 1 ≤ n) (h6 : n ≤ 6) (mask base : Int) (a3 : Option Addr) (len cap : Nat) (hm : len ≤ maxLen)
    (hd : len = 0 ∨ ∃ b off, a3 = some ⟨b, off, none⟩ ∧ ∀ i, i < len → ∃ x, w.cell? ⟨b, off + i, none⟩ = some (.int .u8 x)) :
    Calls Ybad.prog 5 #[.int .i64 n, .int .u32 mask, .int .i16 base, .slice a3 len cap] w fun e w' => ∃ bG bt bg zs g, e = .returned (.pointer (some ⟨bG, 0, none⟩)) ∧ GG w'.heap.size w' bG bt bg n n n zs g ∧ Below w.heap.size w w' := by
  have m1 := mk29 n (by omega)
  have m2 := mk35 n (by omega)
  unfold maxLen at hm
  have HD : Hid (_ ∨ _) := hd
  clear hd
  go_enter Ybad.func5, Ybad.ntmps5
  go_upto_region 4 with fail
  have hr0 := row_new w n 3 .i64
  have hb0 : Below w.heap.size w (w.alloc (.cells (Array.replicate n (.int .i64 0)) 3)) := (Below.refl _ _).alloc (Nat.le_refl _) _
  obtain ⟨bt, hbt⟩ : ∃ b, w.heap.size = b := ⟨_, rfl⟩
  rw [hbt] at hr0 hb0
  simp only [hbt]
  generalize w.alloc (.cells (Array.replicate n (.int .i64 0)) 3) = w1 at *
  go_loopg [10, 11] n (fun gh s10 s11 wr => ∃ (k : Nat) (z : Int) (ys : List Int), k ≤ n ∧ gh = n - k ∧ s10 = .int .i64 z ∧ s11 = .int .i64 k ∧ ys.length = n ∧ Row wr bt 3 .i64 ys ∧ Below bt w wr)
  case atStart => exact ⟨0, _, _, by omega, by omega, rfl, rfl, by simp, hr0, hb0⟩
  case round =>
    obtain ⟨k, z, ys, hk, rfl, rfl, rfl, hys, hr, hb⟩ := hrel
    clear hr0 hb0 w1
    by_cases hlt : k < n
    · have cr := hr.cell (i := k) (by omega)
      have fr := hr.free k
      have b1 : (k : Int) < (n : Int) := by omega
      by_cases hk0 : k = 0
      · subst hk0
        go_wp2_with fail
        go_roundg (n - 1)
        case measure => omega
        case rel => exact ⟨1, z, _, by omega, rfl, rfl, rfl, by simpa using hys, hr.set 0 _, hb.setCell (Nat.le_refl _) _⟩
      · obtain ⟨j, rfl⟩ : ∃ j, k = j + 1 := ⟨k - 1, by omega⟩
        have hj : ((j + 1 : Nat) : Int) - 1 = (j : Int) := by omega
        have hj0 : (0 : Int) < ((j + 1 : Nat) : Int) := by omega
        by_cases hjl : j < len
        · rcases HD.out with h | ⟨b, off, rfl, hc⟩
          · omega
          obtain ⟨x, hx⟩ := hc j hjl
          have hbl := World.block_lt_of_cell? w _ hx
          dsimp only at hbl
          have hx2 := (hb.cell (p := ⟨b, off + j, none⟩) (by show b < bt; omega)).trans hx
          have hjb : (j : Int) < (len : Int) := by omega
          clear HD hc
          go_wp2_with fail
          go_roundg (n - (j + 1 + 1))
          case measure => omega
          case rel => exact ⟨j + 1 + 1, _, _, by omega, rfl, rfl, by go_num, by simpa using hys, hr.set (j + 1) _, hb.setCell (Nat.le_refl _) _⟩
        · have hjb : ¬ (j : Int) < (len : Int) := by omega
          go_wp2_with fail
          go_roundg (n - (j + 1 + 1))
          case measure => omega
          case rel => exact ⟨j + 1 + 1, _, _, by omega, rfl, rfl, by go_num, by simpa using hys, hr.set (j + 1) _, hb.setCell (Nat.le_refl _) _⟩
    · obtain rfl : k = n := by omega
      clear m1
      generalize wr = w2 at *
      go_upto_region 15 with fail
      obtain ⟨kp, hb2, s2⟩ := one1b w2 (.cells (Array.replicate k (.slice none 0 0)) 29)
      obtain ⟨bp, hbp⟩ : ∃ b, w2.heap.size = b := ⟨_, rfl⟩
      have hbtl := hr.lt
      replace hr := hr.below hb2 hr.lt
      replace hb := hb.trans (hb2.mono (by have := hb.size; omega))
      have hsz := hb.size
      rw [hbp] at kp s2 hbtl
      simp only [hbp]
      generalize w2.alloc (.cells (Array.replicate k (.slice none 0 0)) 29) = w3 at *
      clear m2 hb2 hbp
      have hq0 : Gq w3 bp k [] := ⟨⟨_, by simp, kp⟩, (fun v hv => by cases hv), (fun L hL => by cases hL)⟩
      go_loopg [14, 15] k (fun gh s14 s15 wr => ∃ (i bit : Nat) (g : List (List Nat)), i ≤ k ∧ gh = k - i ∧ s14 = .int .u64 bit ∧ s15 = .int .i64 i ∧ bit ≤ 6 * i ∧ g.length = i ∧ Gq wr bp k g ∧ Row wr bt 3 .i64 ys ∧ Below bt w wr)
      case atStart => exact ⟨0, 0, [], by omega, by omega, rfl, rfl, by omega, rfl, hq0, hr, hb⟩
      case round =>
        obtain ⟨i, bit, g, hi, rfl, rfl, rfl, hbit, hgl, hq, hr2, hb2⟩ := hrel
        clear hq0 hr hb kp
        by_cases hlt2 : i < k
        · generalize wr = w4 at *
          have b2 : (i : Int) < (k : Int) := by omega
          go_upto_region 19 with fail
          obtain ⟨ke, hb3, s4⟩ := one1b w4 (.cells #[] 3)
          obtain ⟨S0, hS0⟩ : ∃ b, w4.heap.size = b := ⟨_, rfl⟩
          have hbl : bp < S0 := by
            obtain ⟨cs, _, h2⟩ := hq.blk
            have := lt_of_block h2
            omega
          have h45 := hb3
          have hS4 : bt < S0 := by have := hr2.lt; omega
          replace hr2 := hr2.below hb3 hr2.lt
          replace hb2 := hb2.trans (hb3.mono (by omega))
          rw [hS0] at ke s4
          simp only [hS0]
          generalize w4.alloc (.cells #[] 3) = w5 at *
          have hH0 : Hb w5 S0 0 [] := ⟨#[], ke, rfl, by simp, by simp⟩
          clear hb3 ke
          go_loopg [14, 16, 17] k (fun gh s14 s16 s17 wx => ∃ (j bit' b cp : Nat) (L : List Nat), j ≤ k ∧ gh = k - j ∧ s14 = .int .u64 bit' ∧ s17 = .int .i64 j ∧ bit' ≤ bit + j ∧ s16 = .slice (some ⟨b, 0, none⟩) L.length cp ∧ cp ≤ maxLen ∧ Hb wx b cp L ∧ S0 ≤ b ∧ L.length ≤ j ∧ (∀ u ∈ L, u < k) ∧ Below S0 w5 wx)
          case atStart => exact ⟨0, bit, S0, 0, [], by omega, by omega, rfl, rfl, by omega, rfl, by decide, hH0, Nat.le_refl _, by simp, by simp, Below.refl _ _⟩
          case round =>
            obtain ⟨j, bit', b, cp, L, hj, rfl, rfl, rfl, hbj, rfl, hcp, hH, hSb, hLj, hLk, hB5⟩ := hrel
            clear hH0
            by_cases hlt3 : j < k
            · have b3 : (j : Int) < (k : Int) := by omega
              by_cases hji : j = i
              · subst hji
                go_wp2_with fail
                go_roundg (k - (j + 1))
                case measure => omega
                case rel => exact ⟨j + 1, bit', b, cp, L, by omega, rfl, rfl, by go_num, by omega, rfl, hcp, hH, hSb, by omega, hLk, hB5⟩
              · have hji' : ((j : Int) == (i : Int)) = false := by rw [beq_eq_false_iff_ne]; omega
                have hbw : IntKind.u64.wrap ((bit' : Int) + 1) = (bit' : Int) + 1 := by rw [IntKind.wrap_u64]; omega
                have HO : Hid (Hb _ _ _ _) := hH.of_block (w' := wr.alloc (.cells #[.int .i64 (j : Int)] 3)) (Below.heap_alloc _ _ _ hH.lt)
                have HC : Hid (_ = _) := cell_new1 wr j
                have hB6 : Below S0 w5 (wr.alloc (.cells #[.int .i64 (j : Int)] 3)) := hB5.alloc (by have := hB5.size; omega) _
                have hsz6 : (wr.alloc (.cells #[.int .i64 (j : Int)] 3)).heap.size = wr.heap.size + 1 := by simp
                have hs5 := hB5.size
                go_wp2_with (refine wpList_push rfl (.tmp 71) (.tmp 73) 29 Ybad.underlying29 rfl (.slice (some ⟨b, 0, none⟩) L.length cp) rfl b cp L (.inr ⟨rfl, hcp, HO.out⟩) wr.heap.size rfl j HC.out (by omega) ?_; intro b' cap' w6 k1 k2 k3 k4 _; have HB7 : Hid (Below S0 w5 w6) := hB6.trans (k4.below (by intro q hq; simp at hq; omega) (by omega)))
                · go_roundg (k - (j + 1))
                  case measure => omega
                  case rel =>
                    refine ⟨j + 1, bit' + 1, b', cap', L ++ [j], by omega, rfl, by go_num, by go_num, by omega, by simp, k1, k2, by omega, by simp; omega, fun u hu => ?_, HB7.out⟩
                    rcases List.mem_append.1 hu with h | h
                    · exact hLk u h
                    · simp at h; omega
                · go_roundg (k - (j + 1))
                  case measure => omega
                  case rel => exact ⟨j + 1, bit' + 1, b, cp, L, by omega, rfl, by go_num, by go_num, by omega, rfl, hcp, hH, hSb, by omega, hLk, hB5⟩
            · obtain rfl : j = k := by omega
              have hq5 := hq.below (h45.trans (by rw [hS0]; exact hB5))
              have hr5 := hr2.below hB5 hS4
              have hb5 := hb2.trans (hB5.mono (by omega))
              obtain ⟨cs, hcs, hqb⟩ := hq5.blk
              obtain ⟨v0, hv0⟩ : ∃ v0, cs[i]? = some v0 := ⟨_, Array.getElem?_eq_getElem (by omega)⟩
              have cw : wr.cell? ⟨bp, i, none⟩ = some v0 := by simp [World.cell?, hqb, hv0]
              have fw : wr.frozen? ⟨bp, i, none⟩ = false := by simp [World.frozen?, hqb]
              have hq6 := hq5.snoc (by omega) (b := b) (cap := cp) (L := L) (by omega) hH (by omega) hLk
              rw [hgl] at hq6
              have hr6 : Row (wr.setCell ⟨bp, i, none⟩ (.slice (some ⟨b, 0, none⟩) L.length cp)) bt 3 .i64 ys := hr5.of_block (Below.heap_setCell _ _ _ _ (by show bt ≠ bp; omega))
              have hb6 : Below bt w (wr.setCell ⟨bp, i, none⟩ (.slice (some ⟨b, 0, none⟩) L.length cp)) := hb5.setCell (p := ⟨bp, i, none⟩) (by show bt ≤ bp; omega) _
              clear hq hr2 hb2 hqb hv0 h45
              go_wp2_with fail
              go_roundg (j - (i + 1))
              case measure => omega
              case rel => exact ⟨i + 1, bit', g ++ [L], by omega, rfl, rfl, by go_num, by omega, by simp [hgl], hq6, hr6, hb6⟩
        · obtain rfl : i = k := by omega
          obtain ⟨cs, hcs, hqb⟩ := hq.blk
          have hbpl := lt_of_block hqb
          go_wp2_with fail
          go_ret
          obtain ⟨kG, hb3, s3⟩ := one1b wr (.cells #[.slice (some ⟨bt, 0, none⟩) i i, .slice none 0 0, .map none, .slice none 0 0, .pointer none, .slice (some ⟨bp, 0, none⟩) i i] 37)
          have hrl := hr2.lt
          have hq3 := hq.below hb3
          refine ⟨wr.heap.size, bt, bp, ys, g, rfl, ⟨⟨by omega, fun v hv u hu => ?_, fun v => ?_⟩, h1, hgl, hys, ?_, ?_, fun q hq => (hr2.below hb3 hrl).cell (by omega), ⟨by omega, fun v hv => ?_⟩, by omega, by omega⟩, ?_⟩
          · rw [hgl]
            refine (hq.sm (g.getD v []) ?_).2 u hu
            rw [List.getD_eq_getElem?_getD, List.getElem?_eq_getElem hv]; exact List.getElem_mem _
          · by_cases hv : v < g.length
            · refine (hq.sm (g.getD v []) ?_).1
              rw [List.getD_eq_getElem?_getD, List.getElem?_eq_getElem hv]; exact List.getElem_mem _
            · rw [List.getD_eq_getElem?_getD, List.getElem?_eq_none (by omega)]; simp
          · unfold World.cell?
            dsimp only
            rw [kG]
            rfl
          · unfold World.cell?
            dsimp only
            rw [kG]
            rfl
          · obtain ⟨b, cp, k1, k2, k3, k4⟩ := hq3.at' v hv
            exact ⟨b, cp, k1, k3, k4⟩
          · rw [hbt]; exact hb2.trans (hb3.mono (by have := hb2.size; omega))
end Go.Proofs.YbulkbhcsDoor
