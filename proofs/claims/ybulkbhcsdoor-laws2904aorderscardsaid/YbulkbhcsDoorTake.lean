import Derived.Test.YbulkbhcsDoorHold
namespace Go.Proofs.YbulkbhcsDoor
open Go.RowKit

/-- The closure release, hold. -/
def relV (f B3 B8 B9 B10 B14 : Nat) : Value := .func (.func f) #[] #[.pointer (some ⟨B3, 0, none⟩), .pointer (some ⟨B9, 0, none⟩), .pointer (some ⟨B8, 0, none⟩), .pointer (some ⟨B10, 0, none⟩), .pointer (some ⟨B14, 0, none⟩)]

set_option maxHeartbeats 1000000 in
set_option maxRecDepth 100000 in
theorem take_ok (w : World) (B : Nat) (g : List (List Nat)) (ho : Ok g) (n B3 B8 B9 B10 B14 bg cg bi bs bl bw cs F v : Nat) (p : List Nat) (hn : g.length = n) (hP : Pre g p) (hvF : Free g p v)
    (hM : RM B w g n B3 B8 B9 B10 bg cg bi bs bl bw cs (rest g p) F) (hF : IsF F (Free g p)) (h14 : w.cell? ⟨B14, 0, none⟩ = some (relV 26 B3 B8 B9 B10 B14)) (hne : B14 ≠ bw) :
    Calls Ybad.prog 29 #[.int .i64 v, .pointer (some ⟨B10, 0, none⟩), .pointer (some ⟨B14, 0, none⟩)] w fun e w' => (∃ y, e = .returned y) ∧
      ∃ F', RM B w' g n B3 B8 B9 B10 bg cg bi bs bl bw cs (rest g (p ++ [v])) F' ∧ IsF F' (Free g (p ++ [v])) ∧ Upd [bi, bw] w w' := by
  have n6 := ho.n6
  have hvn : v < 6 := by have := hvF.1; omega
  have c10 := hM.c10
  have hrem := remove_ok w bs bl bw cs F v hvn hF.lt hM.ns
  have hM1 := hM.setF (F - (F &&& 2 ^ v))
  have hF1 : IsF (F - (F &&& 2 ^ v)) (fun u => Free g p u ∧ u ≠ v) := hF.remove hvn (fun _ _ => Iff.rfl)
  have hU1 : Upd [bi, bw] w (w.setCell ⟨bw, 0, none⟩ (.int .u64 ((F - (F &&& 2 ^ v) : Nat) : Int))) := (Upd.refl _ _).setCell (by simp) _
  have h14' : (w.setCell ⟨bw, 0, none⟩ (.int .u64 ((F - (F &&& 2 ^ v) : Nat) : Int))).cell? ⟨B14, 0, none⟩ = some (relV 26 B3 B8 B9 B10 B14) :=
    (World.cell?_of_block (w := w) (Below.heap_setCell _ _ _ _ (by simpa using hne))).trans h14
  have hrel := release_ok _ B g ho n B3 B8 B9 B10 bg cg bi bs bl bw cs _ v p (.pointer (some ⟨B14, 0, none⟩)) hn hP hvF hM1 hF1
  have H1 : Hid (Calls Ybad.prog 28 _ _ _) := hrem
  have H2 : Hid (Calls Ybad.prog 26 _ _ _) := hrel
  unfold relV at h14'
  clear hrem hrel hM1 hF1
  go_enter Ybad.func29, Ybad.ntmps29
  go_wp2_with (first
    | (go_at_call 28; refine H1.out.mono ?_; rintro e w6 ⟨⟨_, rfl⟩, rfl⟩)
    | (go_at_call 26; refine H2.out.mono ?_; rintro e w7 ⟨⟨_, rfl⟩, F', q1, q2, q3⟩))
  go_end0
  exact ⟨⟨_, rfl⟩, F', q1, q2, hU1.trans q3⟩
set_option maxHeartbeats 1000000 in
set_option maxRecDepth 100000 in
theorem untake_ok (w : World) (B : Nat) (g : List (List Nat)) (ho : Ok g) (n B3 B8 B9 B10 B15 bg cg bi bs bl bw cs F v : Nat) (p : List Nat) (hn : g.length = n) (hvF : Free g p v)
    (hM : RM B w g n B3 B8 B9 B10 bg cg bi bs bl bw cs (rest g (p ++ [v])) F) (hF : IsF F (Free g (p ++ [v]))) (h15 : w.cell? ⟨B15, 0, none⟩ = some (relV 27 B3 B8 B9 B10 B15)) :
    Calls Ybad.prog 30 #[.int .i64 v, .pointer (some ⟨B15, 0, none⟩), .pointer (some ⟨B10, 0, none⟩)] w fun e w' => (∃ y, e = .returned y) ∧
      ∃ F', RM B w' g n B3 B8 B9 B10 bg cg bi bs bl bw cs (rest g p) F' ∧ IsF F' (Free g p) ∧ Upd [bi, bw] w w' := by
  have n6 := ho.n6
  have hvn : v < 6 := by have := hvF.1; omega
  have hrel := hold_ok w B g ho n B3 B8 B9 B10 bg cg bi bs bl bw cs F v p (.pointer (some ⟨B15, 0, none⟩)) hn hvF hM hF
  have H2 : Hid (Calls Ybad.prog 27 _ _ _) := hrel
  unfold relV at h15
  clear hrel
  go_enter Ybad.func30, Ybad.ntmps30
  go_wp2_with (first
    | (go_at_call 27; refine H2.out.mono ?_; rintro e w7 ⟨⟨_, rfl⟩, F', q1, q2, q3⟩; have c10 := q1.c10)
    | (go_at_call 25; refine (add_ok w7 bs bl bw cs F' v hvn q2.lt q1.ns).mono ?_; rintro e w6 ⟨⟨_, rfl⟩, rfl⟩))
  go_end0
  refine ⟨⟨_, rfl⟩, _, q1.setF _, q2.add hvn (fun u _ => ?_), q3.setCell (by simp) _⟩
  constructor
  · intro h
    by_cases e : u = v
    · exact .inr e
    · exact .inl ⟨h, e⟩
  · rintro (h | rfl)
    · exact h.1
    · exact hvF
end Go.Proofs.YbulkbhcsDoor
