import Derived.Test.YbulkbhcsDoorOut
import Derived.Test.YbulkbhcsDoorRev
import Derived.Test.YbulkbhcsDoorPermFull
import Derived.Test.YbulkbhcsDoorTxns
import Derived.Test.YbulkbhcsDoorGraph
namespace Go.Proofs.YbulkbhcsDoor
open Go.RowKit

theorem linked_mid {n : Nat} : ∀ (dn : List (List Nat)) (p : List Nat) (rs : List (List Nat)), linked n (dn ++ p :: rs) = true → nextP n p = rs.head?
  | [], p, [], h => by
    simp [linked] at h
    simpa using h
  | [], p, q :: l, h => by
    simp [linked] at h
    simpa using h.1
  | [x], p, rs, h => by
    simp only [List.cons_append, List.nil_append, linked, Bool.and_eq_true] at h
    exact linked_mid [] p rs h.2
  | x :: y :: dn, p, rs, h => by
    simp only [List.cons_append, linked, Bool.and_eq_true] at h
    exact linked_mid (y :: dn) p rs h.2
theorem CH_next {n : Nat} (h1 : 1 ≤ n) (h6 : n ≤ 6) {dn rs : List (List Nat)} {p : List Nat} (h : CH n = dn ++ p :: rs) : nextP n p = rs.head? := by
  have hc := chk_all n (by omega) h1
  unfold chk at hc
  simp only [Bool.and_eq_true] at hc
  rw [h] at hc
  exact linked_mid dn p rs hc.1.2
theorem CH_start {n : Nat} (h1 : 1 ≤ n) (h6 : n ≤ 6) : ∃ rs, CH n = List.range n :: rs := by
  have hc := chk_all n (by omega) h1
  unfold chk at hc
  simp only [Bool.and_eq_true, beq_iff_eq] at hc
  have h0 := hc.1.1
  cases e : CH n with
  | nil => rw [e] at h0; cases h0
  | cons x l => rw [e] at h0; simp at h0; exact ⟨l, by rw [h0]⟩
theorem CH_len : ∀ n : Nat, n < 7 → (CH n).length ≤ 720 := by decide +kernel

theorem gset (l : List Int) (i j : Nat) (x : Int) (hi : i < l.length) : (l.set i x).getD j 0 = if i = j then x else l.getD j 0 := by
  by_cases e : i = j
  · subst e
    rw [if_pos rfl, List.getD_eq_getElem?_getD, List.getElem?_set_self hi]; rfl
  · rw [if_neg e, List.getD_eq_getElem?_getD, List.getD_eq_getElem?_getD, List.getElem?_set_ne e]
theorem nodup_get {p : List Nat} (h : p.Nodup) {i j : Nat} (hi : i < p.length) (hj : j < p.length) (e : p.getD i 0 = p.getD j 0) : i = j := by
  rw [List.getD_eq_getElem?_getD, List.getD_eq_getElem?_getD, List.getElem?_eq_getElem hi, List.getElem?_eq_getElem hj] at e
  have e' : p[i] = p[j] := by simpa using e
  have hp := List.pairwise_iff_getElem.1 h
  rcases Nat.lt_trichotomy i j with hlt | heq | hgt
  · exact absurd e' (hp i j hi hj hlt)
  · exact heq
  · exact absurd e'.symm (hp j i hj hi hgt)
theorem get_ix {p : List Nat} {v : Nat} (h : v ∈ p) : ix p v < p.length ∧ p.getD (ix p v) 0 = v := by
  have hl : ix p v < p.length := List.idxOf_lt_length_iff.2 h
  refine ⟨hl, ?_⟩
  rw [List.getD_eq_getElem?_getD, List.getElem?_eq_getElem hl]
  exact List.getElem_idxOf hl
theorem Full.mem' {n : Nat} {q : List Nat} (h : Full n q) {x : Nat} (hx : x < n) : x ∈ q := by
  by_cases e : x ∈ q
  · exact e
  · have h2 := nodup_le n (x :: q) (List.nodup_cons.2 ⟨e, h.nodup⟩) (fun y hy => by
      rcases List.mem_cons.1 hy with rfl | hy
      · exact hx
      · exact h.lt y hy)
    have h3 := h.len
    rw [List.length_cons] at h2
    omega
theorem Full.at' {n : Nat} {q : List Nat} (h : Full n q) {i : Nat} (hi : i < n) : q.getD i 0 < n := by
  refine h.lt _ ?_
  rw [List.getD_eq_getElem?_getD, List.getElem?_eq_getElem (by rw [h.len]; exact hi)]
  exact List.getElem_mem _
/-- The edges out of the first u nodes go forward. -/
def ckU (g : List (List Nat)) (p : List Nat) (u : Nat) : Bool := (List.range u).all (fun u' => (g.getD u' []).all (fun v => decide (ix p u' < ix p v)))
theorem ckU_succ (g : List (List Nat)) (p : List Nat) (u : Nat) : ckU g p (u + 1) = (ckU g p u && (g.getD u []).all (fun v => decide (ix p u < ix p v))) := by
  unfold ckU
  rw [List.range_succ, List.all_append]
  simp
theorem all_take (L : List Nat) (f : Nat → Bool) {k : Nat} (h : k < L.length) : (L.take (k + 1)).all f = ((L.take k).all f && f (L.getD k 0)) := by
  rw [List.take_add_one, List.getElem?_eq_getElem h, List.all_append, List.getD_eq_getElem?_getD, List.getElem?_eq_getElem h]
  simp

/-- The memory of the model. -/
structure MM (w0 w : World) (base bp bq n : Nat) (p : List Nat) (v : Value) (xs : List (List Int)) : Prop where
  rp : Row w bp 3 .i64 (nz p)
  rq : ∃ zs : List Int, zs.length = n ∧ Row w bq 3 .i64 zs
  out : Own w base n v xs
  bel : Below w0.heap.size w0 w
  sz : base ≤ w.heap.size

set_option maxHeartbeats 2000000 in
set_option maxRecDepth 100000 in
theorem model_ok (w : World) (B bt bg n ct cg : Nat) (zs : List Int) (g : List (List Nat)) (ho : Ok g) (hn : g.length = n) (h1 : 1 ≤ n) (hz : zs.length = n) (hB : B ≤ w.heap.size) (hgr : Gr B w bg g)
    (htx : ∀ i, i < n → w.cell? ⟨bt, i, none⟩ = some (.int .i64 (zs.getD i 0))) :
    Calls Ybad.prog 6 #[.slice (some ⟨bt, 0, none⟩) n ct, .slice (some ⟨bg, 0, none⟩) n cg] w fun e w' => ∃ v, e = .returned v ∧ LL w' n v (((CH n).filter (topoB g)).map (txs zs)) ∧ Below w.heap.size w w' := by
  have h6 : n ≤ 6 := by have := ho.n6; omega
  have m29 := mk29 n (by omega)
  have HG : Hid (Gr _ _ _ _) := hgr
  have HT : Hid (∀ _, _) := htx
  have HO : Hid (Ok g) := ho
  have HN : Hid (g.length = n) := hn
  clear hgr htx ho hn
  go_enter Ybad.func6, Ybad.ntmps6
  go_upto_region 4 with fail
  have hr0 := row_new w n 3 .i64
  have hb0 : Below w.heap.size w (w.alloc (.cells (Array.replicate n (.int .i64 0)) 3)) := (Below.refl _ _).alloc (Nat.le_refl _) _
  have s0 : (w.alloc (.cells (Array.replicate n (.int .i64 0)) 3)).heap.size = w.heap.size + 1 := by simp
  obtain ⟨bp, hbp⟩ : ∃ b, w.heap.size = b := ⟨_, rfl⟩
  rw [hbp] at hr0 hb0 s0
  simp only [hbp]
  generalize w.alloc (.cells (Array.replicate n (.int .i64 0)) 3) = w1 at *
  have hf0 : ∃ ys : List Int, ys.length = n ∧ Row w1 bp 3 .i64 ys ∧ ∀ i : Nat, i < 0 → ys.getD i 0 = (i : Int) := ⟨_, by simp, hr0, fun i hi => by omega⟩
  go_loopg [27] n (fun gh s27 wr => ∃ (k : Nat) (ys : List Int), k ≤ n ∧ gh = n - k ∧ s27 = .int .i64 k ∧ ys.length = n ∧ Row wr bp 3 .i64 ys ∧ (∀ i : Nat, i < k → ys.getD i 0 = (i : Int)) ∧ Below bp w wr ∧ wr.heap.size = bp + 1)
  case atStart =>
    obtain ⟨ys, q1, q2, q3⟩ := hf0
    exact ⟨0, ys, by omega, by omega, rfl, q1, q2, q3, hb0, s0⟩
  case round =>
    obtain ⟨k, ys, hk, rfl, rfl, hyl, hr, hyk, hb, hsz⟩ := hrel
    have HYK : Hid (∀ _, _) := hyk
    clear hf0 hr0 hb0 s0 hyk
    by_cases hlt : k < n
    · have cr := hr.cell (i := k) (by omega)
      have fr := hr.free k
      have b1 : (k : Int) < (n : Int) := by omega
      go_wp2_with fail
      go_roundg (n - (k + 1))
      case measure => omega
      case rel =>
        refine ⟨k + 1, _, by omega, rfl, by go_num, by simpa using hyl, hr.set k (k : Int), fun i hi => ?_, hb.setCell (Nat.le_refl _) _, by simpa using hsz⟩
        rw [gset _ _ _ _ (by omega)]
        by_cases e : k = i
        · subst e; rw [if_pos rfl]
        · rw [if_neg e]; exact HYK.out i (by omega)
    · obtain rfl : k = n := by omega
      have hys : ys = nz (List.range k) := by
        apply List.ext_getElem (by simp [nz, hyl])
        intro i q1 q2
        have := HYK.out i (by omega)
        rw [List.getD_eq_getElem?_getD, List.getElem?_eq_getElem q1] at this
        simp [nz]
        simpa using this
      subst hys
      generalize wr = w2 at *
      go_upto_region 10 with fail
      have hq0 := row_new w2 k 3 .i64
      have hb2 : Below bp w (w2.alloc (.cells (Array.replicate k (.int .i64 0)) 3)) := hb.alloc (by omega) _
      have hr2 := hr.of_block (w' := w2.alloc (.cells (Array.replicate k (.int .i64 0)) 3)) (Below.heap_alloc _ _ _ hr.lt)
      have s2 : (w2.alloc (.cells (Array.replicate k (.int .i64 0)) 3)).heap.size = bp + 2 := by simp [hsz]
      rw [hsz] at hq0
      generalize w2.alloc (.cells (Array.replicate k (.int .i64 0)) 3) = w3 at *
      obtain ⟨rs0, hch0⟩ := CH_start h1 h6
      have hM0 : MM w w3 (bp + 2) bp (bp + 1) k (List.range k) (.slice none 0 0) [] := ⟨hr2, ⟨_, by simp, hq0⟩, Own.nil _ _ _, by rw [hbp]; exact hb2, by omega⟩
      clear hq0 hb2 hr2 s2 hr hb HYK hyl
      go_loopg [9] rs0.length (fun gh s9 wr => ∃ (dn rs : List (List Nat)) (p : List Nat), CH k = dn ++ p :: rs ∧ gh = rs.length ∧ MM w wr (bp + 2) bp (bp + 1) k p s9 ((dn.filter (topoB g)).map (txs zs)))
      case atStart => exact ⟨[], rs0, List.range k, hch0, rfl, hM0⟩
      case round =>
        obtain ⟨dn, rs, p, hch, rfl, hM⟩ := hrel
        clear hM0 hch0 rs0
        have hfu : Full k p := CH_full h1 h6 (by rw [hch]; simp)
        have HFU : Hid (Full k p) := hfu
        have HCH : Hid (CH k = _) := hch
        have hpl := hfu.len
        obtain ⟨hrp, ⟨zq, hql, hrq⟩, hout, hbel, hsz3⟩ := hM
        have HOUT : Hid (Own _ _ _ _ _) := hout
        clear hfu hch hout
        generalize wr = w4 at *
        go_upto_region 11 with fail
        go_loopg [39] k (fun gh s39 wr => ∃ (j : Nat) (zr : List Int), j ≤ k ∧ gh = k - j ∧ s39 = .int .i64 j ∧ zr.length = k ∧ Row wr (bp + 1) 3 .i64 zr ∧ (∀ i : Nat, i < j → zr.getD (p.getD i 0) 0 = (i : Int)) ∧ Upd [bp + 1] w4 wr)
        case atStart => exact ⟨0, zq, by omega, by omega, rfl, hql, hrq, fun i hi => by omega, Upd.refl _ _⟩
        case round =>
          obtain ⟨j, zr, hj, rfl, rfl, hzl, hrz, hzj, hU⟩ := hrel
          have HZ : Hid (∀ _, _) := hzj
          clear hzj hrq
          by_cases hjk : j < k
          · obtain ⟨v, hv⟩ : ∃ v, p.getD j 0 = v := ⟨_, rfl⟩
            have hvk : v < k := by rw [← hv]; exact HFU.out.at' hjk
            have cp := (hU.row hrp (by simp)).cell (i := j) (by rw [nz_len]; omega)
            rw [nz_get, hv] at cp
            have cq := hrz.cell (i := v) (by omega)
            have fq := hrz.free v
            have b1 : (j : Int) < (k : Int) := by omega
            have b2 : (v : Int) < (k : Int) := by omega
            have HZ2 : Hid (∀ i : Nat, i < j + 1 → (zr.set v (j : Int)).getD (p.getD i 0) 0 = (i : Int)) := fun i hi => by
              rw [gset _ _ _ _ (by omega)]
              by_cases e : i = j
              · subst e; rw [if_pos hv.symm]
              · rw [if_neg (fun e2 => e (nodup_get HFU.out.nodup (by omega) (by omega) (by rw [hv]; exact e2.symm)))]
                exact HZ.out i (by omega)
            clear HZ
            go_wp2_with fail
            go_roundg (k - (j + 1))
            case measure => omega
            case rel => exact ⟨j + 1, _, by omega, rfl, by go_num, by simpa using hzl, hrz.set v (j : Int), HZ2.out, hU.setCell (by simp) _⟩
          · obtain rfl : j = k := by omega
            have HIX : Hid (∀ v, v < j → zr.getD v 0 = (ix p v : Int)) := fun v hv => by
              obtain ⟨q1, q2⟩ := get_ix (HFU.out.mem' hv)
              have := HZ.out (ix p v) (by omega)
              rwa [q2] at this
            clear HZ hjk
            generalize wr = w5 at *
            go_upto_region 17 with fail
            go_loopg [12, 13] j (fun gh s12 s13 wr => ∃ u : Nat, u ≤ j ∧ gh = j - u ∧ s13 = .int .i64 u ∧ s12 = .bool (ckU g p u) ∧ Upd [] w5 wr)
            case atStart => exact ⟨0, by omega, by omega, rfl, rfl, Upd.refl _ _⟩
            case round =>
              obtain ⟨u, hu, rfl, rfl, rfl, hU5⟩ := hrel
              by_cases huj : u < j
              · obtain ⟨bL, cL, g1, g2, g3⟩ := HG.out.at' u (by rw [HN.out]; exact huj)
                have hlen := HO.out.len u
                have hin := HO.out.lt u (by rw [HN.out]; exact huj)
                have hcs := ckU_succ g p u
                have g2' : wr.cell? ⟨bg, u, none⟩ = some (.slice (some ⟨bL, 0, none⟩) (g.getD u []).length cL) := by
                  have h2 := (hbel.cell (p := ⟨bg, u, none⟩) (by have := HG.out.lt; show bg < w.heap.size; omega)).trans g2
                  exact hU5.cell (hU.cell h2 (by have := HG.out.lt; simp; omega)) (by simp)
                have HG3 : Hid (∀ i, i < (g.getD u []).length → ∀ wx, Upd [] w5 wx → wx.cell? ⟨bL, i, none⟩ = some (.int .i64 (((g.getD u []).getD i 0 : Nat) : Int))) := fun i hi wx hx => by
                  have h2 := (hbel.cell (p := ⟨bL, i, none⟩) (by show bL < w.heap.size; omega)).trans (g3 i hi)
                  exact hx.cell (hU.cell h2 (by simp; omega)) (by simp)
                clear g3 g2
                generalize g.getD u [] = L at *
                obtain ⟨m, hm⟩ : ∃ m, L.length = m := ⟨_, rfl⟩
                rw [hm] at g2'
                have HIN : Hid (∀ _, _) := hin
                have b1 : (u : Int) < (j : Int) := by omega
                clear hin
                generalize wr = w6 at *
                go_upto_region 20 with fail
                go_loopg [12, 59] m (fun gh s12 s59 wr => ∃ i : Nat, i ≤ m ∧ gh = m - i ∧ s59 = .int .i64 i ∧ s12 = .bool (ckU g p u && (L.take i).all (fun v => decide (ix p u < ix p v))) ∧ Upd [] w5 wr)
                case atStart => exact ⟨0, by omega, by omega, rfl, by simp, hU5⟩
                case round =>
                  obtain ⟨i, hi, rfl, rfl, rfl, hU6⟩ := hrel
                  by_cases him : i < m
                  · obtain ⟨v, hv⟩ : ∃ v, L.getD i 0 = v := ⟨_, rfl⟩
                    have hvj : v < j := by
                      have := HIN.out (L.getD i 0) (by rw [List.getD_eq_getElem?_getD, List.getElem?_eq_getElem (by omega)]; exact List.getElem_mem _)
                      rw [HN.out, hv] at this
                      exact this
                    have cl := HG3.out i (by omega) wr hU6
                    rw [hv] at cl
                    have cu := (hU6.row hrz (by simp)).cell (i := u) (by omega)
                    have cv := (hU6.row hrz (by simp)).cell (i := v) (by omega)
                    rw [HIX.out u huj] at cu
                    rw [HIX.out v hvj] at cv
                    have hat := all_take L (fun v => decide (ix p u < ix p v)) (k := i) (by omega)
                    rw [hv] at hat
                    have b2 : (i : Int) < (m : Int) := by omega
                    have b3 : (v : Int) < (j : Int) := by omega
                    clear g2'
                    go_upto_region 22 with fail
                    go_quiet (fail)
                    have hU7 := hU6.trans (Upd.of_below (S := []) (below_drewN (Below.refl wr.heap.size wr) nq))
                    by_cases hix : ix p u < ix p v
                    · have hd1 : decide ((ix p v : Int) ≤ (ix p u : Int)) = false := by simp; omega
                      have hd2 : decide (ix p u < ix p v) = true := by simpa using hix
                      rw [hd2, Bool.and_true] at hat
                      go_wp2_with fail
                      go_roundg (m - (i + 1))
                      case measure => omega
                      case rel => exact ⟨i + 1, by omega, rfl, by go_num, by rw [hat], hU7⟩
                    · have hd1 : decide ((ix p v : Int) ≤ (ix p u : Int)) = true := by simp; omega
                      have hd2 : decide (ix p u < ix p v) = false := by simpa using hix
                      rw [hd2, Bool.and_false] at hat
                      go_wp2_with fail
                      go_roundg (m - (i + 1))
                      case measure => omega
                      case rel => exact ⟨i + 1, by omega, rfl, by go_num, by rw [hat, Bool.and_false], hU7⟩
                  · obtain rfl : i = m := by omega
                    have htk : L.take i = L := List.take_of_length_le (by omega)
                    rw [htk, ← hcs]
                    go_wp2_with fail
                    go_roundg (j - (u + 1))
                    case measure => omega
                    case rel => exact ⟨u + 1, by omega, rfl, by go_num, rfl, hU6⟩
              · obtain rfl : u = j := by omega
                have hU45 : Upd [bp + 1] w4 wr := hU.trans (hU5.mono (by simp))
                have hMw : MM w wr (bp + 2) bp (bp + 1) u p u9 ((dn.filter (topoB g)).map (txs zs)) :=
                  ⟨hU45.row hrp (by simp), ⟨zr, hzl, hU5.row hrz (by simp)⟩, HOUT.out.upd hU45 (by simp), hbel.trans (hU45.below (by intro q hq; simp at hq; omega) hbel.size), by have := hU45.size; omega⟩
                have htb : topoB g p = ckU g p u := by rw [← HN.out]; rfl
                have hlen : dn.length ≤ 720 := by
                  have h2 := CH_len u (by omega)
                  rw [HCH.out, List.length_append] at h2
                  omega
                clear hrp hrz hU hU5 hU45 HOUT hbel huj HIX hsz3
                generalize wr = w6 at *
                go_upto_if 73 with fail
                go_cut [9, 12, 16, 17, 18] from 37 to 146 (fun s9 s12 s16 s17 s18 wd => MM w wd (bp + 2) bp (bp + 1) u p s9 (((dn ++ [p]).filter (topoB g)).map (txs zs)))
                case first =>
                  by_cases hck : ckU g p u = true
                  · have hxs : ((dn ++ [p]).filter (topoB g)).map (txs zs) = (dn.filter (topoB g)).map (txs zs) ++ [txs zs p] := by
                      rw [List.filter_append, List.map_append]
                      simp [htb, hck]
                    have hxl : ((dn.filter (topoB g)).map (txs zs)).length ≤ 1000 := by
                      have := List.length_filter_le (topoB g) dn
                      rw [List.length_map]; omega
                    have hyl := txs_len zs p
                    rw [hpl] at hyl
                    rw [hck]
                    go_upto_region 28 with fail
                    have hro := row_new w6 u 3 .i64
                    have hUo : Upd [] w6 (w6.alloc (.cells (Array.replicate u (.int .i64 0)) 3)) := (Upd.refl _ _).alloc _
                    have hso : (w6.alloc (.cells (Array.replicate u (.int .i64 0)) 3)).heap.size = w6.heap.size + 1 := by simp
                    obtain ⟨bo, hbo⟩ : ∃ b, w6.heap.size = b := ⟨_, rfl⟩
                    have hf0 : Row (w6.alloc (.cells (Array.replicate u (.int .i64 0)) 3)) bo 3 .i64 (fill (txs zs p) 0) := by
                      rw [fill_zero, hyl, ← hbo]; exact hro
                    simp only [hbo]
                    generalize w6.alloc (.cells (Array.replicate u (.int .i64 0)) 3) = w7 at *
                    clear hro
                    go_loopg [78] u (fun gh s78 wr => ∃ i : Nat, i ≤ u ∧ gh = u - i ∧ s78 = .int .i64 i ∧ Row wr bo 3 .i64 (fill (txs zs p) i) ∧ Upd [] w6 wr)
                    case atStart => exact ⟨0, by omega, by omega, rfl, hf0, hUo⟩
                    case round =>
                      obtain ⟨i, hi, rfl, rfl, hrf, hUi⟩ := hrel
                      by_cases hiu : i < u
                      · obtain ⟨v, hv⟩ : ∃ v, p.getD i 0 = v := ⟨_, rfl⟩
                        have hvu : v < u := by rw [← hv]; exact HFU.out.at' hiu
                        have cp := (hUi.row hMw.rp (by simp)).cell (i := i) (by rw [nz_len]; omega)
                        rw [nz_get, hv] at cp
                        have ct0 := HT.out v hvu
                        have ct1 : wr.cell? ⟨bt, v, none⟩ = some (.int .i64 (zs.getD v 0)) := hUi.cell ((hMw.bel.cell (p := ⟨bt, v, none⟩) (World.block_lt_of_cell? w _ ct0)).trans ct0) (by simp)
                        have hy : (txs zs p).getD i 0 = zs.getD v 0 := by
                          rw [← hv]
                          simp [txs, List.getD_eq_getElem?_getD, List.getElem?_eq_getElem (show i < p.length by omega)]
                        have hset := hrf.set i ((txs zs p).getD i 0)
                        rw [fill_succ (by omega), hy] at hset
                        have HSET : Hid (Row _ _ _ _ _) := hset
                        have cr := hrf.cell (i := i) (by rw [fill_len (by omega)]; omega)
                        have fr := hrf.free i
                        have b1 : (i : Int) < (u : Int) := by omega
                        have b2 : (v : Int) < (u : Int) := by omega
                        generalize (fill (txs zs p) i).getD i 0 = y0 at *
                        generalize zs.getD v 0 = y at *
                        clear hset ct0 hy
                        go_wp2_with fail
                        go_roundg (u - (i + 1))
                        case measure => omega
                        case rel => exact ⟨i + 1, by omega, rfl, by go_num, HSET.out, hUi.setNew (.inr (by show w6.heap.size ≤ bo; omega)) _⟩
                      · obtain rfl : i = u := by omega
                        rw [← hyl, fill_all] at hrf
                        have hA8 : Upd [] w6 (wr.alloc (.cells #[.slice (some ⟨bo, 0, none⟩) i i] 29)) := hUi.alloc _
                        have HO8 : Hid (Own _ _ _ _ _) := hMw.out.upd hA8 (by simp)
                        have HR8 : Hid (Row _ _ _ _ _) := hrf.of_block (w' := wr.alloc (.cells #[.slice (some ⟨bo, 0, none⟩) i i] 29)) (Below.heap_alloc _ _ _ hrf.lt)
                        have HC8 : Hid ((wr.alloc (.cells #[.slice (some ⟨bo, 0, none⟩) i i] 29)).cell? ⟨wr.heap.size, 0, none⟩ = some (.slice (some ⟨bo, 0, none⟩) i i)) := by
                          have hnw := heap_new wr (.cells #[.slice (some ⟨bo, 0, none⟩) i i] 29)
                          show (wr.alloc (.cells #[.slice (some ⟨bo, 0, none⟩) i i] 29)).cell? ⟨wr.heap.size, 0, none⟩ = _
                          unfold World.cell?
                          dsimp only
                          rw [hnw]
                          rfl
                        have hs8 := hA8.size
                        have hsz6 := hMw.sz
                        go_wp2_with (refine wpList_out rfl (.tmp 91) (.tmp 93) rfl (bp + 2) i u9 rfl _ HO8.out (by omega) wr.heap.size bo rfl HC8.out (txs zs p) HR8.out hyl (by omega) hxl ?_; intro g' cap' w9 k1 k2)
                        go_meet
                        have hb8 : Below (bp + 2) w6 (wr.alloc (.cells #[.slice (some ⟨bo, 0, none⟩) i i] 29)) := hA8.below (by simp) hsz6
                        have hb9 := hb8.trans k2
                        obtain ⟨zq', hq1, hq2⟩ := hMw.rq
                        rw [hxs]
                        exact ⟨hMw.rp.of_block (hb9.block bp (by omega)), ⟨zq', hq1, hq2.of_block (hb9.block (bp + 1) (by omega))⟩, by simpa using k1, hMw.bel.trans (hb9.mono (by omega)), by have := k2.size; omega⟩
                  · have hck' : ckU g p u = false := by simpa using hck
                    have hxs : ((dn ++ [p]).filter (topoB g)).map (txs zs) = (dn.filter (topoB g)).map (txs zs) := by
                      rw [List.filter_append, List.map_append]
                      simp [htb, hck']
                    rw [hck']
                    go_wp2_with fail
                    go_meet
                    rw [hxs]
                    exact hMw
                case rest =>
                  have HM : Hid (MM _ _ _ _ _ _ _ _ _) := hcut
                  have hnx := CH_next h1 h6 HCH.out
                  unfold nextP at hnx
                  clear hcut hMw
                  generalize wc = w7 at *
                  go_upto_region 34 with fail
                  go_loopg [19] (u - 1) (fun gh s19 wr => ∃ i : Nat, i ≤ u - 1 ∧ gh = i ∧ s19 = .int .i64 ((i : Int) - 1) ∧ pv p (u - 1) = pv p i ∧ Upd [] w7 wr)
                  case atStart => exact ⟨u - 1, by omega, rfl, congrArg (Value.int IntKind.i64) (by omega), rfl, Upd.refl _ _⟩
                  case round =>
                    obtain ⟨i, hi, hgi, rfl, hpv, hU7⟩ := hrel
                    have hrp7 := hU7.row HM.out.rp (by simp)
                    cases i with
                    | zero =>
                      have hg0 : ((0 : Nat) : Int) - 1 = -1 := rfl
                      rw [hg0]
                      rw [hpv] at hnx
                      have hrs : rs = [] := by
                        cases rs with
                        | nil => rfl
                        | cons q l => simp [pv] at hnx
                      subst hrs
                      have hfin : ((CH u).filter (topoB g)).map (txs zs) = ((dn ++ [p]).filter (topoB g)).map (txs zs) := by rw [HCH.out]
                      go_upto_region 34 with fail
                      go_quiet (fail)
                      have hU8 := hU7.trans (Upd.of_below (S := []) (below_drewN (Below.refl wr.heap.size wr) nq))
                      have HLL : Hid (LL _ _ _ _) := (HM.out.out.upd hU8 (by simp)).ll
                      have HBB : Hid (Below _ _ _) := HM.out.bel.trans (hU8.below (by simp) HM.out.bel.size)
                      go_wp2_with fail
                      go_ret
                      refine ⟨_, rfl, ?_, HBB.out⟩
                      rw [hfin]
                      exact HLL.out
                    | succ i =>
                      have hg0 : ((i + 1 : Nat) : Int) - 1 = (i : Int) := by omega
                      rw [hg0]
                      have c1 := hrp7.cell (i := i) (by rw [nz_len]; omega)
                      have c2 := hrp7.cell (i := i + 1) (by rw [nz_len]; omega)
                      rw [nz_get] at c1 c2
                      have b1 : (i : Int) < (u : Int) := by omega
                      have b2 : (i : Int) + 1 < (u : Int) := by omega
                      have b3 : (0 : Int) ≤ (i : Int) + 1 := by omega
                      have hpe : pv p (i + 1) = if p.getD (i + 1) 0 < p.getD i 0 then pv p i else some i := rfl
                      obtain ⟨x, hx⟩ : ∃ x, p.getD i 0 = x := ⟨_, rfl⟩
                      obtain ⟨y, hy⟩ : ∃ y, p.getD (i + 1) 0 = y := ⟨_, rfl⟩
                      rw [hx, hy] at hpe
                      rw [hx] at c1
                      rw [hy] at c2
                      go_upto_region 34 with fail
                      by_cases hyx : y < x
                      · have hd : decide ((y : Int) < (x : Int)) = true := by simp; omega
                        go_quiet (fail)
                        have hU8 := hU7.trans (Upd.of_below (S := []) (below_drewN (Below.refl wr.heap.size wr) nq))
                        rw [if_pos hyx] at hpe
                        go_wp2_with fail
                        go_roundg i
                        case measure => omega
                        case rel => exact ⟨i, by omega, rfl, rfl, by rw [hpv, hpe], hU8⟩
                      · have hd : decide ((y : Int) < (x : Int)) = false := by simp; omega
                        go_quiet (fail)
                        have hU8 := hU7.trans (Upd.of_below (S := []) (below_drewN (Below.refl wr.heap.size wr) nq))
                        rw [if_neg hyx] at hpe
                        rw [hpv, hpe] at hnx
                        simp only [Option.map_some] at hnx
                        obtain ⟨p', rs', hrs⟩ : ∃ p' rs', rs = p' :: rs' := by
                          cases rs with
                          | nil => cases hnx
                          | cons p' rs' => exact ⟨p', rs', rfl⟩
                        subst hrs
                        simp only [List.head?_cons, Option.some.injEq] at hnx
                        rw [hx] at hnx
                        clear c1 c2 hrp7 hU7 hpv hpe
                        generalize wr.drewN nq = w8 at *
                        go_upto_region 38 with fail
                        go_loopg [20] (u - 1) (fun gh s20 wr => ∃ j : Nat, i + 1 ≤ j ∧ j ≤ u - 1 ∧ gh = j ∧ s20 = .int .i64 j ∧ sc p x (u - 1) = sc p x j ∧ Upd [] w7 wr)
                        case atStart => exact ⟨u - 1, by omega, by omega, rfl, congrArg (Value.int IntKind.i64) (by omega), rfl, hU8⟩
                        case round =>
                          obtain ⟨j, hj1, hj2, hgj, rfl, hsc, hU9⟩ := hrel
                          have hrp9 := hU9.row HM.out.rp (by simp)
                          have c1 := hrp9.cell (i := i) (by rw [nz_len]; omega)
                          have c2 := hrp9.cell (i := j) (by rw [nz_len]; omega)
                          rw [nz_get] at c1 c2
                          rw [hx] at c1
                          obtain ⟨z, hz2⟩ : ∃ z, p.getD j 0 = z := ⟨_, rfl⟩
                          rw [hz2] at c2
                          have b4 : (j : Int) < (u : Int) := by omega
                          go_upto_region 38 with fail
                          by_cases hzx : z < x
                          · have hd2 : decide ((z : Int) < (x : Int)) = true := by simp; omega
                            have hjn : j ≠ i + 1 := fun e => by subst e; rw [hy] at hz2; omega
                            obtain ⟨j', rfl⟩ : ∃ j', j = j' + 1 := ⟨j - 1, by omega⟩
                            have hse : sc p x (j' + 1) = sc p x j' := by
                              show (if p.getD (j' + 1) 0 < x then sc p x j' else j' + 1) = _
                              rw [if_pos (by rw [hz2]; exact hzx)]
                            go_quiet (fail)
                            have hUa := hU9.trans (Upd.of_below (S := []) (below_drewN (Below.refl wr.heap.size wr) nq))
                            go_wp2_with fail
                            go_roundg j'
                            case measure => omega
                            case rel => exact ⟨j', by omega, by omega, rfl, congrArg (Value.int IntKind.i64) (by omega), by rw [hsc, hse], hUa⟩
                          · have hd2 : decide ((z : Int) < (x : Int)) = false := by simp; omega
                            have hse : sc p x j = j := by
                              obtain ⟨j', rfl⟩ : ∃ j', j = j' + 1 := ⟨j - 1, by omega⟩
                              show (if p.getD (j' + 1) 0 < x then sc p x j' else j' + 1) = _
                              rw [if_neg (by rw [hz2]; exact hzx)]
                            rw [hsc, hse] at hnx
                            go_quiet (fail)
                            have hUa := hU9.trans (Upd.of_below (S := []) (below_drewN (Below.refl wr.heap.size wr) nq))
                            have hrpa := hUa.row HM.out.rp (by simp)
                            clear c1 c2 hrp9 hU9 hsc hse
                            generalize wr.drewN nq = w9 at *
                            have c1 := hrpa.cell (i := i) (by rw [nz_len]; omega)
                            have c2 := hrpa.cell (i := j) (by rw [nz_len]; omega)
                            rw [nz_get] at c1 c2
                            rw [hx] at c1
                            rw [hz2] at c2
                            have f1 := hrpa.free i
                            have f2 := hrpa.free j
                            have hS : Row ((w9.setCell ⟨bp, i, none⟩ (.int .i64 (z : Int))).setCell ⟨bp, j, none⟩ (.int .i64 (x : Int))) bp 3 .i64 (nz (swp p i j)) := by
                              have := (hrpa.set i (z : Int)).set j (x : Int)
                              rw [nz_set, nz_set] at this
                              rw [swp, hx, hz2]
                              exact this
                            have HS : Hid (Row _ _ _ _ _) := hS
                            have hij : i ≠ j := by omega
                            have HU2 : Hid (Upd [bp] w9 ((w9.setCell ⟨bp, i, none⟩ (.int .i64 (z : Int))).setCell ⟨bp, j, none⟩ (.int .i64 (x : Int)))) := ((Upd.refl _ _).setCell (by simp) _).setCell (by simp) _
                            clear hS hrpa
                            go_upto_region 40 with fail
                            go_region
                            have HSd : Row ((w9.setCell ⟨bp, i, none⟩ (.int .i64 (z : Int))).setCell ⟨bp, j, none⟩ (.int .i64 (x : Int))).drew bp 3 .i64 (nz (swp p i j)) := HS.out
                            have HUd : Upd [bp] w7 ((w9.setCell ⟨bp, i, none⟩ (.int .i64 (z : Int))).setCell ⟨bp, j, none⟩ (.int .i64 (x : Int))).drew := (hUa.mono (by simp)).trans HU2.out.drew
                            generalize ((w9.setCell ⟨bp, i, none⟩ (.int .i64 (z : Int))).setCell ⟨bp, j, none⟩ (.int .i64 (x : Int))).drew = wA at *
                            clear c1 c2 f1 f2 HS HU2 hUa
                            have H12 : Hid (Calls Ybad.prog 12 _ _ _) := reverse_ok wA bp (i + 1) (u - (i + 1)) (u - (i + 1)) (swp p i j) HSd (by rw [swp_len]; omega) (by omega)
                            have b5 : (i : Int) + 1 ≤ (u : Int) := by omega
                            go_wp2_with (go_at_call 12; refine H12.out.mono ?_; rintro e wB ⟨⟨_, rfl⟩, q1, q2⟩)
                            go_roundg rs'.length
                            case measure => simp
                            case rel =>
                              rw [hnx] at q1
                              have hUt := HUd.trans q2
                              obtain ⟨zq', hq1, hq2⟩ := HM.out.rq
                              exact ⟨dn ++ [p], rs', p', by rw [HCH.out]; simp, rfl, q1, ⟨zq', hq1, hUt.row hq2 (by simp)⟩, HM.out.out.upd hUt (by simp), HM.out.bel.trans (hUt.below (by intro q hq; simp at hq; omega) HM.out.bel.size), by have := hUt.size; have := HM.out.sz; omega⟩
end Go.Proofs.YbulkbhcsDoor
