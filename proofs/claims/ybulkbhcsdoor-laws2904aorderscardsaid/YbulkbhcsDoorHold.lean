import Derived.Test.YbulkbhcsDoorRel
namespace Go.Proofs.YbulkbhcsDoor
open Go.RowKit

/-- While v is being taken back: k of its edges have been counted in again. -/
def FreeH (g : List (List Nat)) (p : List Nat) (v k u : Nat) : Prop := u < g.length ∧ u ∉ p ++ [v] ∧ ((g.getD v []).take k ++ rest g (p ++ [v])).count u = 0
theorem freeH_zero {g : List (List Nat)} {p : List Nat} {v u : Nat} : FreeH g p v 0 u ↔ Free g (p ++ [v]) u := by
  unfold FreeH Free
  simp
theorem freeH_all {g : List (List Nat)} {p : List Nat} {v u : Nat} (hv : Free g p v) : FreeH g p v (g.getD v []).length u ↔ Free g p u ∧ u ≠ v := by
  rw [← freeK_zero hv]
  unfold FreeH FreeK
  rw [List.take_length, List.drop_zero]
theorem take_get {L : List Nat} {k : Nat} (h : k < L.length) : L.take (k + 1) = L.take k ++ [L.getD k 0] := by
  rw [List.take_add_one, List.getD_eq_getElem?_getD, List.getElem?_eq_getElem h]; rfl
theorem freeH_step {g : List (List Nat)} {p : List Nat} {v k x : Nat} (hk : k < (g.getD v []).length) : FreeH g p v (k + 1) x ↔ FreeH g p v k x ∧ x ≠ (g.getD v []).getD k 0 := by
  unfold FreeH
  rw [take_get hk]
  generalize (g.getD v []).getD k 0 = u
  simp only [List.count_append, List.count_cons, List.count_nil]
  by_cases e : x = u
  · subst e; simp
  · have e' : (u == x) = false := by rw [beq_eq_false_iff_ne]; exact fun h => e h.symm
    simp [e', e]
theorem cnt_mid (n : Nat) (A R : List Nat) (u : Nat) : cnt n (A ++ R ++ [u]) = cnt n (A ++ [u] ++ R) := by
  unfold cnt
  apply List.map_congr_left
  intro x _
  simp only [List.count_append]
  omega

set_option maxHeartbeats 1000000 in
set_option maxRecDepth 100000 in
theorem hold_ok (w : World) (B : Nat) (g : List (List Nat)) (ho : Ok g) (n B3 B8 B9 B10 bg cg bi bs bl bw cs F v : Nat) (p : List Nat) (x : Value) (hn : g.length = n) (hvF : Free g p v)
    (hM : RM B w g n B3 B8 B9 B10 bg cg bi bs bl bw cs (rest g (p ++ [v])) F) (hF : IsF F (Free g (p ++ [v]))) :
    Calls Ybad.prog 27 #[.int .i64 v, .pointer (some ⟨B3, 0, none⟩), .pointer (some ⟨B9, 0, none⟩), .pointer (some ⟨B8, 0, none⟩), .pointer (some ⟨B10, 0, none⟩), x] w fun e w' => (∃ y, e = .returned y) ∧
      ∃ F', RM B w' g n B3 B8 B9 B10 bg cg bi bs bl bw cs (rest g p) F' ∧ IsF F' (fun u => Free g p u ∧ u ≠ v) ∧ Upd [bi, bw] w w' := by
  have n6 := ho.n6
  have hvn : v < n := by have := hvF.1; omega
  have HG : Hid (g.length = n) := hn
  obtain ⟨bL, cL, g1, g2, g3⟩ := hM.gr.at' v (by omega)
  have hlen := ho.len v
  have hin := ho.lt v (by omega)
  have HCP : Hid (_ = _) := cnt_place (n := n) hvF
  obtain ⟨L, hL⟩ : ∃ L, g.getD v [] = L := ⟨_, rfl⟩
  rw [hL] at g2 g3 hlen hin HCP
  have HL : Hid (g.getD v [] = L) := hL
  have HG3 : Hid (∀ i, i < L.length → w.cell? ⟨bL, i, none⟩ = some (.int .i64 ((L.getD i 0 : Nat) : Int))) := g3
  have HIN : Hid (∀ u ∈ L, u < g.length) := hin
  obtain ⟨m, hm⟩ : ∃ m, L.length = m := ⟨_, rfl⟩
  rw [hm] at g2
  have b7 : (v : Int) < (n : Int) := by omega
  have c3 := hM.c3
  have hF0 := hF.congr (fun u _ => freeH_zero)
  clear hL g3 hin
  go_enter Ybad.func27, Ybad.ntmps27
  go_upto_region 1 with fail
  clear c3 g2
  go_loopg [14] m (fun gh s14 wx => ∃ (k F' : Nat), k ≤ m ∧ gh = m - k ∧ s14 = .int .i64 k ∧ RM B wx g n B3 B8 B9 B10 bg cg bi bs bl bw cs (L.take k ++ rest g (p ++ [v])) F' ∧ IsF F' (FreeH g p v k) ∧ Upd [bi, bw] w wx)
  case atStart => exact ⟨0, F, by omega, by omega, rfl, by simpa using hM, hF0, Upd.refl _ _⟩
  case round =>
    obtain ⟨k, F', hk, rfl, rfl, hM5, hF5, hU⟩ := hrel
    clear hF0
    by_cases hlt2 : k < m
    · obtain ⟨u, hu⟩ : ∃ u, L.getD k 0 = u := ⟨_, rfl⟩
      have huL : u ∈ L := by rw [← hu, List.getD_eq_getElem?_getD, List.getElem?_eq_getElem (by omega)]; exact List.getElem_mem _
      have hun := HIN.out u huL
      have hstep := fun x => freeH_step (g := g) (p := p) (v := v) (k := k) (x := x) (by rw [HL.out]; omega)
      rw [HL.out, hu] at hstep
      have hdr := take_get (L := L) (k := k) (by omega)
      rw [hu] at hdr
      have hl := HG3.out k (by omega)
      rw [hu] at hl
      have hl2 : wr.cell? ⟨bL, k, none⟩ = some (.int .i64 (u : Int)) := hU.cell hl (by have := hM.i1; have := hM.i2; simp; omega)
      have huk : (L.take k ++ rest g (p ++ [v])).count u ≠ 0 → ¬ FreeH g p v k u := fun h hx => by
        have h3 := hx.2.2
        rw [HL.out] at h3
        exact h h3
      have hin : u < n := by omega
      have hrc := hM5.row.cell (i := u) (by rw [cnt_length]; omega)
      rw [cnt_get _ hin] at hrc
      have hcl : (L.take k ++ rest g (p ++ [v])).count u ≤ 100 := by
        have h1 := List.count_le_length (a := u) (l := L.take k ++ rest g (p ++ [v]))
        have h2 := rest_len ho (p ++ [v])
        rw [List.length_append, List.length_take] at h1
        omega
      have hset : (cnt n (L.take k ++ rest g (p ++ [v]))).set u ((((L.take k ++ rest g (p ++ [v])).count u : Nat) : Int) + 1) = cnt n (L.take (k + 1) ++ rest g (p ++ [v])) := by
        rw [cnt_snoc, cnt_mid, ← hdr]
      have hrf := hM5.row.free u
      have b8 : (u : Int) < (n : Int) := by omega
      have b9 : (k : Int) < (m : Int) := by omega
      have c9 := hM5.c9
      have c8 := hM5.c8
      have c10 := hM5.c10
      obtain ⟨c, hc⟩ : ∃ c, (L.take k ++ rest g (p ++ [v])).count u = c := ⟨_, rfl⟩
      rw [hc] at hrc hcl hset huk
      by_cases hc0 : c = 0
      · subst hc0
        have HRM := remove_ok wr bs bl bw cs F' u (by omega) hF5.lt hM5.ns
        have HPU : Hid (Calls Ybad.prog 28 _ wr _) := HRM
        have hM6 := hM5.setF (F' - (F' &&& 2 ^ u))
        have hrc2 := hM6.row.cell (i := u) (by rw [cnt_length]; omega)
        rw [cnt_get _ hin, hc] at hrc2
        have hrf2 := hM6.row.free u
        have c9' := hM6.c9
        have hM7 := hM6.setRow hset
        have HM7 : RM B ((wr.setCell ⟨bw, 0, none⟩ (.int .u64 ((F' - (F' &&& 2 ^ u) : Nat) : Int))).setCell ⟨bi, u, none⟩ (.int .i64 1)) g n B3 B8 B9 B10 bg cg bi bs bl bw cs (L.take (k + 1) ++ rest g (p ++ [v])) (F' - (F' &&& 2 ^ u)) := hM7
        have HU7 : Upd [bi, bw] w ((wr.setCell ⟨bw, 0, none⟩ (.int .u64 ((F' - (F' &&& 2 ^ u) : Nat) : Int))).setCell ⟨bi, u, none⟩ (.int .i64 1)) := (hU.setCell (by simp) _).setCell (by simp) _
        have hF7 : Hid (IsF (F' - (F' &&& 2 ^ u)) (FreeH g p v (k + 1))) := hF5.remove (by omega) (fun y _ => hstep y)
        replace hrc : wr.cell? ⟨bi, u, none⟩ = some (.int .i64 0) := hrc
        replace hrc2 : (wr.setCell ⟨bw, 0, none⟩ (.int .u64 ((F' - (F' &&& 2 ^ u) : Nat) : Int))).cell? ⟨bi, u, none⟩ = some (.int .i64 0) := hrc2
        clear HRM hM6 hM7 hstep hc hdr hl huk hset
        go_wp2_with (go_at_call 28; refine HPU.out.mono ?_; rintro e w6 ⟨⟨_, rfl⟩, rfl⟩)
        go_roundg (m - (k + 1))
        case measure => omega
        case rel => exact ⟨k + 1, _, by omega, rfl, by go_num, HM7, hF7.out, HU7⟩
      · have hc0' : ((c : Int) == 0) = false := by rw [beq_eq_false_iff_ne]; omega
        have hM7 := hM5.setRow hset
        have HU7 : Upd [bi, bw] w (wr.setCell ⟨bi, u, none⟩ (.int .i64 ((c : Int) + 1))) := hU.setCell (by simp) _
        have hF7 : Hid (IsF F' (FreeH g p v (k + 1))) := hF5.congr (fun y _ => by
          rw [hstep y]
          exact ⟨fun h => h.1, fun h => ⟨h, fun e => huk hc0 (e ▸ h)⟩⟩)
        clear hstep hc hdr hl huk hset
        go_wp2_with fail
        go_roundg (m - (k + 1))
        case measure => omega
        case rel => exact ⟨k + 1, F', by omega, rfl, by go_num, hM7, hF7.out, HU7⟩
    · obtain rfl : k = m := by omega
      have hdr : L.take k = L := List.take_of_length_le (by omega)
      rw [hdr] at hM5
      go_wp2_with fail
      go_end0
      exact ⟨⟨_, rfl⟩, F', hM5.congr HCP.out.symm, hF5.congr (fun u _ => by rw [← freeH_all hvF, HL.out, hm]), hU⟩
end Go.Proofs.YbulkbhcsDoor
