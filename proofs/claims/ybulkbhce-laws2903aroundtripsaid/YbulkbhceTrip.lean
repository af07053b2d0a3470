import Derived.Test.YbulkbhceLay
namespace Go.Proofs.Ybulkbhce
open Go.RowKit

theorem IsTail.on {W w : World} {a : Option Addr} {t : Nat} {T : List Int} (h : IsTail W a t T) (hb : Below W.heap.size W w) : IsTail w a t T :=
  ⟨h.1, h.2.1, fun x hx j n hn => (hb.cell (p := x.add j) (World.block_lt_of_cell? W _ (h.2.2 x hx j n hn))).trans (h.2.2 x hx j n hn)⟩

theorem build' (s : ByteArray) (ep : Int) (G : List Int) (a : Option Addr) (t ct : Nat) (T : List Int) (w : World) (hs : s.size ≤ 255) (hG : G.length = 32) (ht : t ≤ 1024) (hT : IsTail w a t T) :
    Calls Yba.prog 6 #[.string s, .int .u64 ep, .agg (bcells G).toArray, .slice a t ct] w fun e w' => ∃ b, e = .returned (.slice (some ⟨b, 0, none⟩) (s.size + 41 + t) (s.size + 41 + t)) ∧
      Buf w' b (s.size + 41 + t) (lay s ep G T) ∧ w.heap.size ≤ b ∧ Below w.heap.size w w' := by
  have h := build_any s ep G a t ct T w hs hG ht hT
  rw [show 1 + s.size + 40 + t = s.size + 41 + t from by omega] at h
  exact h

theorem trip_cut (s : ByteArray) (ep : Int) (G : List Int) (t : Nat) (T : List Int) (b : Nat) (w : World) (hs : s.size ≤ 255) (he1 : 0 ≤ ep) (he2 : ep < 18446744073709551616) (hG : G.length = 32) (hgb : ∀ i, i < 32 → By (G.getD i 0))
    (hT : T.length = t) (htb : ∀ i, i < T.length → By (T.getD i 0)) (hbuf : Buf w b (s.size + 41 + t) (lay s ep G T)) :
    Calls Yba.prog 5 #[.slice (some ⟨b, 0, none⟩) (s.size + 41 + t) (s.size + 41 + t)] w fun e w' => ∃ x : Addr, e = .returned (.tuple #[.string s, .int .u64 ep, .agg (bcells G).toArray, .slice (some x) t t, .bool true]) ∧
      (0 < t → x = ⟨b, s.size + 41, none⟩) ∧ Below w.heap.size w w' := by
  have hll := lay_length s ep G T hG
  have h := cut_ok' b 0 t (s.size + 41 + t) s.size (layD s ep G T) w (Nat.le_refl _) (fun i hi => layD_by s ep G T hs hG hgb htb i (by omega)) (layD_0 s ep G T) (fun i hi => hbuf.layD s ep G T (by omega))
  rw [lay_str, lay_be8 s ep G T he1 he2, lay_cells s ep G T hG, show s.size + 41 + t - (s.size + 41) = t from by omega, Nat.zero_add] at h
  exact h

theorem trip_short (s : ByteArray) (ep : Int) (G : List Int) (t cap : Nat) (T : List Int) (b : Nat) (w : World) (hs : s.size ≤ 255) (hbuf : Buf w b cap (lay s ep G T)) (hG : G.length = 32) :
    Calls Yba.prog 5 #[.slice (some ⟨b, 0, none⟩) (s.size + 40) (s.size + 41 + t)] w fun e w' => e = .returned (.tuple #[.string ⟨#[]⟩, .int .u64 0, .agg zero32.toArray, .slice none 0 0, .bool false]) ∧ Below w.heap.size w w' := by
  have hll := lay_length s ep G T hG
  have h0 := hbuf.layD s ep G T (i := 0) (by omega)
  rw [layD_0] at h0
  exact cut_short b 0 (s.size + 40) (s.size + 41 + t) s.size w (by omega) (by unfold maxLen; omega) ⟨by omega, by omega⟩ (by omega) h0

theorem keep4 {w wc w2 w3 w4 : World} {b cap : Nat} {G L : List Int} (hdg : Dg wc w.heap.size (bcells G)) (hbl : Below w.heap.size w wc) (hsz : w.heap.size < wc.heap.size) (hbuf : Buf w2 b cap L) (hge : wc.heap.size ≤ b) (hb2 : Below wc.heap.size wc w2) (hb3 : Below w2.heap.size w2 w3) (hb4 : Below w3.heap.size w3 w4) :
    Dg w4 w.heap.size (bcells G) ∧ Buf w4 b cap L ∧ Below w.heap.size w w4 := by
  have s2 := hb2.size
  have s3 := hb3.size
  have hlt := hbuf.lt
  refine ⟨((hdg.below hb2 hsz).below hb3 (by omega)).below hb4 (by omega), (hbuf.of_block (hb3.block _ hlt)).of_block (hb4.block _ (by omega)), ?_⟩
  exact ((hbl.trans (hb2.mono (by omega))).trans (hb3.mono (by omega))).trans (hb4.mono (by omega))

set_option maxHeartbeats 1000000 in
set_option maxRecDepth 100000 in
theorem trip_any (s : ByteArray) (ep : Int) (G : List Int) (a : Option Addr) (t ct : Nat) (T : List Int) (w : World) (hs : s.size ≤ maxLen) (he1 : 0 ≤ ep) (he2 : ep < 18446744073709551616) (hG : G.length = 32) (hgb : ∀ i, i < 32 → By (G.getD i 0)) (ht : t ≤ 1024) (hT : IsTail w a t T) (htb : ∀ i, i < T.length → By (T.getD i 0)) :
    Calls Yba.prog 4 #[.string s, .int .u64 ep, .agg (bcells G).toArray, .slice a t ct] w fun e w' => e = .returned (.bool true) ∧ Below w.heap.size w w' := by
  unfold maxLen at hs
  have hnil := eql_nil
  go_enter Yba.func4, Yba.ntmps4
  go_upto_if 27 with fail
  have hdg := Dg.new w G hG
  have hbl : Below w.heap.size w (w.alloc (.cells (bcells G).toArray 24)) := (Below.refl _ _).alloc (Nat.le_refl _) _
  have hsz : w.heap.size < (w.alloc (.cells (bcells G).toArray 24)).heap.size := by simp
  generalize w.alloc (.cells (bcells G).toArray 24) = w1 at hdg hbl hsz ⊢
  go_cut [0] from 28 to 29 (fun a0 wd => ∃ s' : ByteArray, a0 = .string s' ∧ s'.size ≤ 255 ∧ wd = w1)
  case first =>
    by_cases h : s.size ≤ 255
    · go_wp2_with fail
      go_meet
      exact ⟨s, rfl, h, rfl⟩
    · go_wp2_with fail
      go_meet
      exact ⟨_, rfl, by rw [ByteArray.size_extract]; omega, rfl⟩
  case rest =>
    obtain ⟨s', rfl, hs', rfl⟩ := hcut
    have hT1 := hT.on hbl
    have HT1 : Hid (IsTail wc a t T) := hT1
    have HT : Hid (IsTail w a t T) := hT
    have Hgb : Hid (∀ i, i < 32 → By (G.getD i 0)) := hgb
    have Htb : Hid (∀ i, i < T.length → By (T.getD i 0)) := htb
    have hTl := hT.1
    have HTl : Hid (T.length = t) := hTl
    clear hT1 hT hgb htb hTl
    have HGl : Hid (G.length = 32) := hG
    clear hG
    have h32 : Hid (Bytes32 (bcells G).toArray) := fun i hi => by
      have := HGl.out
      exact ⟨G[i]'(by omega), by simp [bcells, List.getElem?_eq_getElem (show i < G.length by omega)]⟩
    have hone := bcells_one G
    have Hone : Hid (∀ v ∈ bcells G, _) := hone
    clear hone
    have hbgl : Hid ((bcells G).length = 32) := (bcells_length G).trans HGl.out
    go_wp2_with (first
      | (refine wpList_load24 rfl (.tmp 6) rfl w.heap.size rfl (bcells G) (by exact hdg) ?_)
      | (go_at_call 6; refine (build' s' ep G a t ct T _ hs' HGl.out ht HT1.out).mono ?_; rintro e w2 ⟨b, rfl, hbuf, hge, hb2⟩)
      | (go_at_call 5; refine (trip_cut s' ep G t T b _ hs' he1 he2 HGl.out Hgb.out HTl.out Htb.out hbuf).mono ?_; rintro e w3 ⟨x, rfl, hx, hb3⟩; have HX : Hid (0 < t → x = ⟨b, s'.size + 41, none⟩) := hx; clear hx)
      | (refine wpList_store24 rfl (.tmp 12) (.tmp 40) rfl w3.heap.size rfl (bcells G) zero32 rfl hbgl.out Hone.out (by exact (Dig.new w3).dg) w3.heap.size w3 (by exact (Below.refl _ _).alloc (Nat.le_refl _) _) (Nat.le_refl _) ?_; intro w4 hd4 hb4 hz4; clear hz4; have hK := keep4 hdg hbl hsz hbuf hge hb2 hb3 hb4)
      | (refine wpList_load24 rfl (.tmp 12) rfl w3.heap.size rfl (bcells G) (by exact hd4) ?_)
      | (refine wpList_load24 rfl (.tmp 6) rfl w.heap.size rfl (bcells G) (by exact hK.1) ?_)
      | (refine wpList_neq24 rfl (.tmp 56) (.tmp 57) 24 rfl (bcells G).toArray rfl rfl h32.out ?_))
    obtain ⟨-, hbuf4, hbw4⟩ := hK
    clear hb2 hb3 hb4 hd4 hdg hbl hbuf
    go_loopg [15] t (fun gg s15 wr => ∃ i : Nat, i ≤ t ∧ gg = t - i ∧ s15 = .int .i64 i ∧ Buf wr b (s'.size + 41 + t) (lay s' ep G T) ∧ Below w.heap.size w wr)
    case atStart => exact ⟨0, by omega, by omega, rfl, hbuf4, hbw4⟩
    case round =>
      obtain ⟨i, hi, rfl, rfl, hbuf5, hbw5⟩ := hrel
      clear hbuf4 hbw4
      by_cases hlt : i < t
      · obtain ⟨h1, h2, h3⟩ := HT.out
        have l0 := hbuf5.layD s' ep G T (i := s'.size + 41 + i) (by rw [lay_length _ _ _ _ HGl.out]; omega)
        rw [layD_t s' ep G T HGl.out, Nat.zero_add] at l0
        cases a with
        | none => exfalso; have := h2 rfl; omega
        | some y =>
          have hTi : T[i]? = some (T.getD i 0) := by rw [List.getD_eq_getElem?_getD, List.getElem?_eq_getElem (by omega)]; rfl
          have l1 := h3 y rfl i _ hTi
          have hyb := World.block_lt_of_cell? w _ l1
          have l2 := (hbw5.cell (p := y.add i) hyb).trans l1
          obtain rfl := HX.out (by omega)
          clear h1 h2 h3 l1 hTi
          generalize T.getD i 0 = tv at *
          go_wp2_with fail
          go_quiet (fail)
          go_wp2_with fail
          go_roundg (t - (i + 1))
          case measure => omega
          case rel => exact ⟨i + 1, by omega, rfl, by go_num, hbuf5.of_block rfl, below_drewN hbw5 _⟩
      · obtain rfl : i = t := by omega
        go_wp2_with (first
          | (go_at_call 5; refine (trip_short s' ep G i _ T b _ hs' hbuf5 HGl.out).mono ?_; rintro e w6 ⟨rfl, hb6⟩; have hbw6 := hbw5.trans (hb6.mono hbw5.size))
          | (refine wpList_store24 rfl (.tmp 19) (.tmp 95) rfl w6.heap.size rfl zero32 zero32 rfl rfl (by decide) (by exact (Dig.new w6).dg) w.heap.size w (by exact hbw6.alloc hbw6.size _) hbw6.size ?_; intro w7 hd7 hb7 hz7; clear hz7)
          | (refine wpList_load24 rfl (.tmp 19) rfl w6.heap.size rfl zero32 (by exact hd7) ?_)
          | (refine wpList_eql24 rfl (.tmp 109) (.tmp 110) 24 rfl zero32.toArray rfl rfl bytes32_zero ?_))
        go_ret
        exact ⟨rfl, hb7⟩

set_option maxRecDepth 100000 in
theorem trip_long (s : ByteArray) (ep : Int) (Z : Array Value) (a : Option Addr) (t ct : Nat) (w : World) (ht : 1024 < t) (hm : t ≤ maxLen) :
    Calls Yba.prog 4 #[.string s, .int .u64 ep, .agg Z, .slice a t ct] w fun e w' => e = .returned (.bool true) ∧ Below w.heap.size w w' := by
  unfold maxLen at hm
  go_enter Yba.func4, Yba.ntmps4
  go_wp2
  go_ret
  exact ⟨rfl, (Below.refl _ _).alloc (Nat.le_refl _) _⟩
end Go.Proofs.Ybulkbhce
