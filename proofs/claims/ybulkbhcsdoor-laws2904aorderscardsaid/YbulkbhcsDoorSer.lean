import Derived.Test.YbulkbhcsDoorTxns
import Derived.Test.YbulkbhcsDoorAcyc
import Derived.Test.YbulkbhcsDoorOrder
namespace Go.Proofs.YbulkbhcsDoor
open Go.RowKit
/-- The Graph value at block bG. -/
structure GG (B : Nat) (w : World) (bG bt bg n ct cg : Nat) (zs : List Int) (g : List (List Nat)) : Prop where
  ok : Ok g
  n1 : 1 ≤ n
  gn : g.length = n
  zn : zs.length = n
  c0 : w.cell? ⟨bG, 0, none⟩ = some (.slice (some ⟨bt, 0, none⟩) n ct)
  c5 : w.cell? ⟨bG, 5, none⟩ = some (.slice (some ⟨bg, 0, none⟩) n cg)
  tx : ∀ i, i < n → w.cell? ⟨bt, i, none⟩ = some (.int .i64 (zs.getD i 0))
  gr : Gr B w bg g
  lG : bG < B
  lt : bt < B
theorem GG.below {B : Nat} {w w' : World} {bG bt bg n ct cg : Nat} {zs : List Int} {g : List (List Nat)} (h : GG B w bG bt bg n ct cg zs g) (hb : Below B w w') : GG B w' bG bt bg n ct cg zs g :=
  ⟨h.ok, h.n1, h.gn, h.zn, (hb.cell (p := ⟨bG, 0, none⟩) h.lG).trans h.c0, (hb.cell (p := ⟨bG, 5, none⟩) h.lG).trans h.c5, fun i hi => (hb.cell (p := ⟨bt, i, none⟩) h.lt).trans (h.tx i hi), h.gr.below hb, h.lG, h.lt⟩
theorem eq29n (d : Nat) (w : World) : (Op.equalIn (d + 1) 29 (.slice none 0 0) (.slice none 0 0)).run Ybad.prog w = .ok true w := by
  simp [Op.equalIn, run_underlying Ybad.underlying29]
theorem eql29n (w : World) : (binOp .eql 29 (.slice none 0 0) (.slice none 0 0)).run Ybad.prog w = .ok (.bool true) w := by
  have h : (Op.equal 29 (.slice none 0 0) (.slice none 0 0)).run Ybad.prog w = .ok true w := eq29n 9999 w
  show ((do pure (Value.bool (← Op.equal 29 (.slice none 0 0) (.slice none 0 0))) : Sem Value)).run Ybad.prog w = _
  simp [h]
set_option maxHeartbeats 1000000 in
set_option maxRecDepth 100000 in
theorem txnsNil_ok (w : World) (bG : Nat) :
    Calls Ybad.prog 16 #[.pointer (some ⟨bG, 0, none⟩), .slice none 0 0] w fun e w' => e = .returned (.slice none 0 0) ∧ w' = w := by
  have he := eql29n
  go_enter Ybad.func16, Ybad.ntmps16
  go_wp2_with fail
  go_ret
  exact ⟨rfl, rfl⟩
set_option maxHeartbeats 1000000 in
set_option maxRecDepth 100000 in
theorem serial_ok (w : World) (B bG bt bg n ct cg : Nat) (zs : List Int) (g : List (List Nat)) (hB : B ≤ w.heap.size) (hg : GG B w bG bt bg n ct cg zs g) :
    Calls Ybad.prog 10 #[.pointer (some ⟨bG, 0, none⟩)] w fun e w' => Below w.heap.size w w' ∧
      (((greedy g n []).length < n ∧ e = .returned (.tuple #[.slice none 0 0, .bool false])) ∨
       ((greedy g n []).length = n ∧ ∃ b, w.heap.size ≤ b ∧ e = .returned (.tuple #[.slice (some ⟨b, 0, none⟩) n n, .bool true]) ∧ Row w' b 3 .i64 (txs zs (greedy g n [])))) := by
  have c5 := hg.c5
  have hn6 : n ≤ 6 := by have := hg.ok.n6; rw [hg.gn] at this; exact this
  have ho := order_ok w B bg cg g hg.ok hB hg.gr
  rw [hg.gn] at ho
  have hlt : ∀ v ∈ greedy g n [], v < n := by
    have := (Topo.pre (g := g) n [] (fun a x b e => by cases a <;> cases e) (Pre.nil g)).2.lt
    rw [hg.gn] at this
    exact this
  by_cases hl : (greedy g n []).length < n
  · have HO : Hid (Calls Ybad.prog 15 #[.slice (some ⟨bg, 0, none⟩) n cg] w fun e w' => e = .returned (.tuple #[.slice none 0 0, .bool false]) ∧ Below w.heap.size w w') := ho.mono fun e w' ⟨h1, h2⟩ => by
      rcases h2 with ⟨_, h2⟩ | ⟨h2, _⟩
      · exact ⟨h2, h1⟩
      · omega
    clear ho
    go_enter Ybad.func10, Ybad.ntmps10
    go_wp2_with (first
      | (go_at_call 15; refine HO.out.mono ?_; rintro e w1 ⟨rfl, hb1⟩)
      | (go_at_call 16; refine (txnsNil_ok w1 bG).mono ?_; rintro e w2 ⟨rfl, rfl⟩))
    refine bodyPost_ret (results_tmp2 rfl _ _ _) rfl ?_
    exact ⟨hb1, .inl ⟨hl, rfl⟩⟩
  · have HO : Hid (Calls Ybad.prog 15 #[.slice (some ⟨bg, 0, none⟩) n cg] w fun e w' => ∃ bo, e = .returned (.tuple #[.slice (some ⟨bo, 0, none⟩) n n, .bool true]) ∧ Below w.heap.size w w' ∧ Hb w' bo n (greedy g n []) ∧ (greedy g n []).length = n) := ho.mono fun e w' ⟨h1, h2⟩ => by
      rcases h2 with ⟨h2, _⟩ | ⟨h2, bo, _, h3, h4⟩
      · omega
      · exact ⟨bo, h3, h1, h4, h2⟩
    clear ho
    generalize greedy g n [] = o at *
    go_enter Ybad.func10, Ybad.ntmps10
    go_wp2_with (first
      | (go_at_call 15; refine HO.out.mono ?_; rintro e w1 ⟨bo, rfl, hb1, hh, hol⟩; have hg1 := hg.below (hb1.mono hB))
      | (go_at_call 16; refine (txnsAt_ok w1 bG bt bo n ct n zs o hg.zn hn6 hol hlt hg1.c0 hg1.tx (fun i hi => hh.cell (by omega))).mono ?_; rintro e w2 ⟨b, rfl, k1, k2, k3⟩))
    refine bodyPost_ret (results_tmp2 rfl _ _ _) rfl ?_
    exact ⟨hb1.trans (k3.mono hb1.size), .inr ⟨hol, b, by have := hb1.size; omega, rfl, k2⟩⟩
end Go.Proofs.YbulkbhcsDoor
