import Derived.Test.YbulkbhcsDoorLp
import Derived.RangeFuncNested
import Derived.RangeFuncBound
import Derived.RangeFuncCalls
import Derived.RangeFuncLeaves
import Derived.Shelf.Abstract
import Derived.Shelf.RegionOpen
import Derived.OwnWalkIn
import Derived.TacticsInMore
import Derived.LoopNIn
import Derived.LoopIn
namespace Go.Proofs.YbulkbhcsDoor
open Go.RowKit
def loopsOf : Code → List Code
  | .loop c => [c]
  | .seq a b => loopsOf a ++ loopsOf b
  | .block _ c => loopsOf c
  | .scope c => loopsOf c
  | .cond _ a b => loopsOf a ++ loopsOf b
  | _ => []

set_option maxHeartbeats 6000000 in
set_option maxRecDepth 100000 in
theorem loop_ok (c : Cx) (f : Fit c) (xs : List (List Int)) (Jx : Nat → List (List Int) → World → Prop) (hY : Rounds c.l c.B0 c.n xs c.J Jx) (Q : Exit → Act → World → Prop)
    (hQ : ∀ a w', a.defers = [] → (c.J c.B1 xs w' ∨ ∃ pre, pre <+: xs ∧ pre ≠ [] ∧ Jx c.B1 pre w') → Q .ret a w')
    (w : World) (p : List Nat) (t gh F : Nat) (zt zb : List Int) (tt : Nat) (pre : List (List Int)) (hL : Lp c xs w p t gh F zt zb tt pre)
    (v0 v1 v2 v5 v6 v7 v11 v12 v13 v16 v17 v21 v31 v32 v33 v34 v35 v36 v37 v38 v39 v40 v41 v42 v43 v44 v45 v46 v47 v48 v49 v50 v51 v52 v53 v54 v55 v56 v57 v58 v59 v60 v61 v62 v63 v64 v65 v66 v67 v68 v69 v70 v71 v72 v73 v74 v75 v76 v77 v78 v79 v80 v81 v82 v83 v84 v85 v86 v87 v88 v89 v90 v91 v92 v93 v94 v95 v96 v97 v98 v99 v100 v101 v102 v103 v104 v105 v106 v107 v108 v109 v110 v111 v112 v113 v114 v115 v116 v117 v118 v119 v120 v121 v122 v123 v124 v125 v126 v127 v128 v129 v130 v131 v132 v133 v134 v135 v136 v137 v138 v139 v140 v141 v142 v143 v144 v145 v146 v147 v148 v149 v150 v151 v152 v153 v154 v155 v156 v157 v158 v159 v160 v161 v162 v163 v164 v165 v166 v167 v168 v169 v170 v171 v172 v173 v174 v175 v176 v177 v178 v179 v180 v181 v182 v183 v184 v185 v186 v187 v188 v189 v190 v191 v192 v193 v194 v195 v196 v197 v198 v199 v200 v201 v202 v203 v204 v205 v206 v207 v208 v209 v210 v211 v212 v213 v214 v215 v216 v217 v218 v219 v220 v221 v222 v223 v224 v225 v226 v227 v228 v229 v230 v231 v232 v233 v234 v235 v236 v237 v238 v239 v240 v241 v242 v243 v244 v245 v246 v247 v248 v249 v250 v251 v252 v253 v254 v255 v256 v257 v258 v259 v260 v261 v262 v263 v264 v265 v266 v267 v268 v269 v270 v271 v272 v273 v274 v275 v276 v277 v278 : Value) :
    Code.wp Ybad.prog (Code.loop (((Ybad.f22.body.map loopsOf).getD []).getD 3 .skip)) Q ⟨(List.toArray (v0 :: v1 :: v2 :: (.pointer (some ⟨c.B3, 0, none⟩)) :: (.pointer (some ⟨c.B4, 0, none⟩)) :: v5 :: v6 :: v7 :: (.pointer (some ⟨c.B8, 0, none⟩)) :: (.pointer (some ⟨c.B9, 0, none⟩)) :: (.pointer (some ⟨c.B10, 0, none⟩)) :: v11 :: v12 :: v13 :: (.pointer (some ⟨c.B14, 0, none⟩)) :: (.pointer (some ⟨c.B15, 0, none⟩)) :: v16 :: v17 :: (.func (.func 29) #[] #[.pointer (some ⟨c.B10, 0, none⟩), .pointer (some ⟨c.B14, 0, none⟩)]) :: (.func (.func 30) #[] #[.pointer (some ⟨c.B15, 0, none⟩), .pointer (some ⟨c.B10, 0, none⟩)]) :: (.slice (some ⟨c.bn, 0, none⟩) c.n c.n) :: v21 :: (.slice (some ⟨c.bo, 0, none⟩) p.length c.n) :: (.slice (some ⟨c.bk, 0, none⟩) p.length c.n) :: (.slice (some ⟨c.bt, 0, none⟩) (c.n + 1) (c.n + 1)) :: (.pointer (some ⟨c.bd, 0, none⟩)) :: (.int .i64 (pre.length : Int)) :: (.slice (some ⟨c.bb, 0, none⟩) (c.n + 1) (c.n + 1)) :: (.bool false) :: (.pointer (some ⟨c.B29, 0, none⟩)) :: (.func (.func 32) #[] #[.pointer (some ⟨c.B4, 0, none⟩), .pointer (some ⟨c.B29, 0, none⟩)]) :: v31 :: v32 :: v33 :: v34 :: v35 :: v36 :: v37 :: v38 :: v39 :: v40 :: v41 :: v42 :: v43 :: v44 :: v45 :: v46 :: v47 :: v48 :: v49 :: v50 :: v51 :: v52 :: v53 :: v54 :: v55 :: v56 :: v57 :: v58 :: v59 :: v60 :: v61 :: v62 :: v63 :: v64 :: v65 :: v66 :: v67 :: v68 :: v69 :: v70 :: v71 :: v72 :: v73 :: v74 :: v75 :: v76 :: v77 :: v78 :: v79 :: v80 :: v81 :: v82 :: v83 :: v84 :: v85 :: v86 :: v87 :: v88 :: v89 :: v90 :: v91 :: v92 :: v93 :: v94 :: v95 :: v96 :: v97 :: v98 :: v99 :: v100 :: v101 :: v102 :: v103 :: v104 :: v105 :: v106 :: v107 :: v108 :: v109 :: v110 :: v111 :: v112 :: v113 :: v114 :: v115 :: v116 :: v117 :: v118 :: v119 :: v120 :: v121 :: v122 :: v123 :: v124 :: v125 :: v126 :: v127 :: v128 :: v129 :: v130 :: v131 :: v132 :: v133 :: v134 :: v135 :: v136 :: v137 :: v138 :: v139 :: v140 :: v141 :: v142 :: v143 :: v144 :: v145 :: v146 :: v147 :: v148 :: v149 :: v150 :: v151 :: v152 :: v153 :: v154 :: v155 :: v156 :: v157 :: v158 :: v159 :: v160 :: v161 :: v162 :: v163 :: v164 :: v165 :: v166 :: v167 :: v168 :: v169 :: v170 :: v171 :: v172 :: v173 :: v174 :: v175 :: v176 :: v177 :: v178 :: v179 :: v180 :: v181 :: v182 :: v183 :: v184 :: v185 :: v186 :: v187 :: v188 :: v189 :: v190 :: v191 :: v192 :: v193 :: v194 :: v195 :: v196 :: v197 :: v198 :: v199 :: v200 :: v201 :: v202 :: v203 :: v204 :: v205 :: v206 :: v207 :: v208 :: v209 :: v210 :: v211 :: v212 :: v213 :: v214 :: v215 :: v216 :: v217 :: v218 :: v219 :: v220 :: v221 :: v222 :: v223 :: v224 :: v225 :: v226 :: v227 :: v228 :: v229 :: v230 :: v231 :: v232 :: v233 :: v234 :: v235 :: v236 :: v237 :: v238 :: v239 :: v240 :: v241 :: v242 :: v243 :: v244 :: v245 :: v246 :: v247 :: v248 :: v249 :: v250 :: v251 :: v252 :: v253 :: v254 :: v255 :: v256 :: v257 :: v258 :: v259 :: v260 :: v261 :: v262 :: v263 :: v264 :: v265 :: v266 :: v267 :: v268 :: v269 :: v270 :: v271 :: v272 :: v273 :: v274 :: v275 :: v276 :: v277 :: v278 :: [])), []⟩ w := by
  conv => arg 2; arg 1; whnf
  go_loopg [22, 23, 26, 28] gh (fun gh s22 s23 s26 s28 wr => ∃ (p : List Nat) (t F : Nat) (zt zb : List Int) (tt : Nat) (pre : List (List Int)), s22 = .slice (some ⟨c.bo, 0, none⟩) p.length c.n ∧ s23 = .slice (some ⟨c.bk, 0, none⟩) p.length c.n ∧ s26 = .int .i64 (pre.length : Int) ∧ s28 = .bool false ∧ Lp c xs wr p t gh F zt zb tt pre)
  case atStart => exact ⟨p, t, F, zt, zb, tt, pre, rfl, rfl, rfl, rfl, hL⟩
  case round =>
    clear hL p t F zt zb tt pre
    obtain ⟨p, t, F, zt, zb, tt, pre, rfl, rfl, rfl, rfl, hL⟩ := hrel
    have HF : Hid (Fit c) := f
    have HY : Hid (Rounds _ _ _ _ _ _) := hY
    have HQ : Hid (∀ _ _, _ → _ → _) := hQ
    clear f hY hQ
    have hn6 : c.n ≤ 6 := by have := HF.out.ok.n6; rw [HF.out.gn] at this; exact this
    have hpl := hL.len HF.out
    have c8 := hL.st.rm.c8
    go_upto_if 118 with fail
    go_cut [22, 23, 26, 32] from 114 to 278 (fun s22 s23 s26 s32 wd => ∃ pre' : List (List Int), s22 = .slice (some ⟨c.bo, 0, none⟩) p.length c.n ∧ s23 = .slice (some ⟨c.bk, 0, none⟩) p.length c.n ∧ s26 = .int .i64 (pre'.length : Int) ∧ St c wd p p p F p.length zt zb (tt : Int) pre' ∧ pre' ++ vis (after c.g p.reverse) = xs ∧ gk = (after c.g p.reverse).length + 1 ∧ zb.getD p.length 0 < (pre'.length : Int) ∧ pre'.length ≤ pre.length + 1)
    case first =>
      by_cases hd : p.length = c.n
      · skip
        obtain ⟨hg1, hg2⟩ := hL.full HF.out hd
        have hdb : ((p.length : Int) == (c.n : Int)) = true := by rw [beq_iff_eq]; omega
        have hw1 : IntKind.i64.wrap ((pre.length : Int) + 1) = (pre.length : Int) + 1 := by rw [IntKind.wrap_i64]; have := hL.b1; omega
        obtain ⟨⟨_, _, _, _, _, _, _⟩, ⟨_, _, _, _, _, _, _, _⟩, ⟨_, _, _, _, _, _⟩, ⟨_, _, _, _, _, _, _, _, _, _, _⟩⟩ := HF.out.ch
        have hyl : YieldAt Fence.wide 8 Ybad.prog c.l #[.slice (some ⟨c.bo, 0, none⟩) p.length c.n] wr fun e A' => Same c.B0 c.B1 wr A' ∧ ((e = .returned (.bool true) ∧ c.J c.B1 (pre ++ [ints p]) A') ∨ (e = .returned (.bool false) ∧ Jx c.B1 (pre ++ [ints p]) A')) := by
          rw [hd]
          exact HY.out 8 c.B1 pre (ints p) c.bo c.n wr (by omega) (by omega) hL.st.sz ⟨_, hg2⟩ (by rw [ints_len, hd]) hL.st.jj (fun i hi => by
            rw [ints_len] at hi
            rw [ints_get]; exact hL.st.od.cell hi)
        have Hd : Hid (p.length = c.n) := hd
        clear hd
        have hne := neq50 c.l
        have wk2 : wr.cell? ⟨c.B4, 2, none⟩ = some (.func (.yield c.l) #[] #[]) := by simp [World.cell?, hL.st.wk]
        have wk3 : wr.cell? ⟨c.B4, 3, none⟩ = some .nilFunc := by simp [World.cell?, hL.st.wk]
        have ts0 := hL.st.ts.cell (i := 0) (by simp)
        go_upto_region 43 with fail
        obtain ⟨fn, tmps, assign, body, hy, hR⟩ := hyl
        refine (wpIn_wide (n := 9)).1 ?_
        gi_wp2
        refine hR.mono ?_
        rintro e W' ⟨hs, ⟨rfl, hj⟩ | ⟨rfl, hj⟩⟩
        · have hSb := hL.st.back HF.out hs hj
          clear hne wk2 wk3 ts0 c8 hy hR
          gi_wp2
          go_wp2_with fail
          go_meet
          refine ⟨pre ++ [ints p], rfl, rfl, ?_, hSb, hg2, hg1, ?_, by simp⟩
          · simp
          · have := hL.bfd; rw [List.length_append, List.length_singleton]; omega
        · have q3 : W'.cell? ⟨c.B4, 3, none⟩ = some .nilFunc := (World.cell?_of_block (w := wr) (hs.2 c.B4 (by omega) (by omega))).trans wk3
          have q4 : W'.cell? ⟨c.B29, 0, none⟩ = some (.int .i64 (tt : Int)) := (World.cell?_of_block (w := wr) (hs.2 c.B29 (by omega) (by omega))).trans ts0
          have H32 : Hid (Calls Ybad.prog 32 _ _ _) := steps_ok W' c.B4 c.B29 (tt : Int) q3 q4
          clear hne wk2 wk3 ts0 c8 hy hR
          gi_wp2
          go_wp2_with (go_at_call 32; refine H32.out.mono ?_; rintro e w6 ⟨rfl, rfl⟩)
          exact HQ.out _ _ rfl (.inr ⟨_, ⟨_, hg2⟩, by simp, hj⟩)
      · skip
        have hdb : ((p.length : Int) == (c.n : Int)) = false := by rw [beq_eq_false_iff_ne]; omega
        have hdn : p.length < c.n := by omega
        obtain ⟨⟨_, _, _, _, _, _, _⟩, ⟨_, _, _, _, _, _, _, _⟩, ⟨_, _, _, _, _, _⟩, ⟨_, _, _, _, _, _, _, _, _, _, _⟩⟩ := HF.out.ch
        have t6 := hL.t6
        have ct := hL.st.tr.cell (i := p.length) (by have := hL.st.trl; omega)
        rw [hL.trd] at ct
        have hq2 : (t : Int) - 1 + 1 = (t : Int) := by omega
        have b1 : (p.length : Int) < (c.n : Int) + 1 := by omega
        have c10 := hL.st.rm.c10
        have n33 : ∀ k, NS (wr.drewN k) c.bs c.bl c.bw c.cs F := fun k => ⟨hL.st.rm.ns.c0, hL.st.rm.ns.c1, hL.st.rm.ns.c2⟩
        have d33 : ∀ k, Deb (wr.drewN k) := fun k => hL.st.deb
        have H33 : Hid (∀ k, Calls Ybad.prog 33 _ (wr.drewN k) _) := fun k => next_ok (wr.drewN k) c.bs c.bl c.bw c.cs F t (by omega) hL.isF.lt (n33 k) (d33 k)
        have hnx := nxt_word F hL.isF.lt t (by omega)
        generalize nxt F t = nx at *
        clear n33 d33
        have HL : Hid (Lp _ _ _ _ _ _ _ _ _ _ _) := hL
        go_upto_region 45 with fail
        go_quiet (first | (go_at_call 33; exact Calls.quiet_of_same (H33.out _)))
        clear H33 ct c10 c8
        rcases hnx with ⟨rfl, hno⟩ | ⟨v, hv6, rfl, htv, hvb, hno⟩
        · have hst := HL.out.stuck HF.out hdn (fun u hu hfr => by
            have hu6 : u < 6 := by have := hfr.1; rw [HF.out.gn] at this; omega
            have := (HL.out.isF.bit u hu6).2 hfr
            rw [hno u hu6 hu] at this
            cases this)
          have HST : Hid (_ ∧ _) := hst
          clear hst hno hL
          go_wp2_with fail
          go_meet
          exact ⟨pre, rfl, rfl, rfl, HL.out.st.grow HF.out (below_drewN (Below.refl _ _) _), HST.out.2.1, HST.out.1, HST.out.2.2, by omega⟩
        · have hvF : Free c.g p v := (HL.out.isF.bit v hv6).1 hvb
          have hvn : v < c.n := by have := hvF.1; rw [HF.out.gn] at this; exact this
          have hnl : ∀ u, t ≤ u → u < v → ¬ Free c.g p u := fun u hu hu2 hfr => by
            have := (HL.out.isF.bit u (by omega)).2 hfr
            rw [hno u hu2 hu] at this
            cases this
          have HNL : Hid (∀ _, _) := hnl
          clear hno hnl hL
          have hS1 := HL.out.st.grow HF.out (below_drewN (Below.refl wr.heap.size wr) nq)
          generalize wr.drewN nq = w1 at *
          go_upto_region 47 with fail
          have ct := hS1.tr.cell (i := p.length) (by have := hS1.trl; omega)
          have ft := hS1.tr.free p.length
          go_upto_region 48 with fail
          have hS2 := hS1.setTr HF.out p.length (v : Int)
          clear hS1 ct ft
          generalize w1.setCell ⟨c.bt, p.length, none⟩ (.int .i64 (v : Int)) = w2 at *
          have wk4 : w2.cell? ⟨c.B4, 4, none⟩ = some (.int .i64 0) := by simp [World.cell?, hS2.wk]
          go_quiet (fail)
          have hS3 := hS2.grow HF.out (below_drewN (Below.refl w2.heap.size w2) nq)
          generalize w2.drewN nq = w3 at *
          clear wk4 hS2
          have ts0 : w3.cell? ⟨c.B29, 0, none⟩ = some (.int .i64 (tt : Int)) := hS3.ts.cell (i := 0) (by simp)
          have fs0 := hS3.ts.free 0
          have hw1 : IntKind.i64.wrap ((tt : Int) + 1) = (tt : Int) + 1 := by rw [IntKind.wrap_i64]; have := HL.out.b2; omega
          go_upto_region 51 with fail
          have hS4 := hS3.setTs HF.out ((tt : Int) + 1)
          clear hS3 ts0 fs0
          generalize w3.setCell ⟨c.B29, 0, none⟩ (.int .i64 ((tt : Int) + 1)) = w4 at *
          have n54 := neq54
          have cn : w4.cell? ⟨c.bn, v, none⟩ = some (.bool false) := by simp [World.cell?, hS4.ne, hvn]
          have b2 : (v : Int) < (c.n : Int) := by omega
          have H34 : Hid (Calls Ybad.prog 34 _ _ _) := holds_ok w4 c.bd c.bp c.bx c.n p.length v (.slice (some ⟨c.bk, 0, none⟩) p.length c.n) hv6 hS4.dd
          go_upto_region 52 with (go_at_call 34; refine H34.out.mono ?_; rintro e w5 ⟨rfl, hb5⟩; have hS5 := hS4.grow HF.out hb5; have wk0 : w5.cell? ⟨c.B4, 0, none⟩ = some .nilFunc := (by simp [World.cell?, hS5.wk]))
          have ct := hS5.tr.cell (i := p.length + 1) (by have := hS5.trl; omega)
          have ft := hS5.tr.free (p.length + 1)
          have b3 : (p.length : Int) + 1 < (c.n : Int) + 1 := by omega
          have b4 : (0 : Int) ≤ (p.length : Int) + 1 := by omega
          clear H34 cn wk0 hb5 hS4
          go_upto_region 53 with fail
          have hS6 := hS5.setTr HF.out (p.length + 1) (-1)
          clear hS5 ct ft
          generalize w5.setCell ⟨c.bt, p.length + 1, none⟩ (.int .i64 (-1)) = w6 at *
          have H29 : Hid (Calls Ybad.prog 29 _ _ _) := take_ok w6 c.B c.g HF.out.ok c.n c.B3 c.B8 c.B9 c.B10 c.B14 c.bg c.cg c.bi c.bs c.bl c.bw c.cs F v p HF.out.gn HL.out.pp hvF hS6.rm HL.out.isF hS6.k14 (by omega)
          go_upto_region 54 with (go_at_call 29; refine H29.out.mono ?_; rintro e w7 ⟨⟨_, rfl⟩, F', q1, q2, q3⟩)
          have hS7 := hS6.setRm HF.out q3 q1
          have HF7 : Hid (IsF _ _) := q2
          clear H29 q1 q2 q3 hS6
          have hcm : c.n ≤ maxLen := by unfold maxLen; omega
          have hA8 : St c (w7.alloc (.cells #[.int .i64 (v : Int)] 3)) (p ++ [v]) p p F' p.length ((zt.set p.length (v : Int)).set (p.length + 1) (-1)) zb ((tt : Int) + 1) pre := hS7.grow HF.out ((Below.refl _ _).alloc (Nat.le_refl _) _)
          have HO8 : Hid (Hb _ _ _ _) := hA8.od
          have HC8 : Hid (_ = _) := cell_new1 w7 v
          go_upto_region 55 with (refine wpList_push rfl (.tmp 190) (.tmp 192) 29 Ybad.underlying29 rfl (.slice (some ⟨c.bo, 0, none⟩) p.length c.n) rfl c.bo c.n p (.inr ⟨rfl, hcm, HO8.out⟩) w7.heap.size rfl v HC8.out (by omega) ?_; intro b' cap' w8 k1 k2 k3 k4 k5; obtain ⟨rfl, rfl, k6⟩ := k5 (by simp) hdn; have hS8 := hA8.setOd HF.out k4 k2; clear k1 k2 k3 k4 k5 k6)
          clear HO8 HC8 hA8 hS7
          have cn : w8.cell? ⟨c.bn, v, none⟩ = some (.bool false) := by simp [World.cell?, hS8.ne, hvn]
          have hA9 : St c (w8.alloc (.cells #[.int .i64 (v : Int)] 3)) (p ++ [v]) (p ++ [v]) p F' p.length ((zt.set p.length (v : Int)).set (p.length + 1) (-1)) zb ((tt : Int) + 1) pre := hS8.grow HF.out ((Below.refl _ _).alloc (Nat.le_refl _) _)
          have HO9 : Hid (Hb _ _ _ _) := hA9.kp
          have HC9 : Hid (_ = _) := cell_new1 w8 v
          go_upto_region 57 with (refine wpList_push rfl (.tmp 199) (.tmp 201) 29 Ybad.underlying29 rfl (.slice (some ⟨c.bk, 0, none⟩) p.length c.n) rfl c.bk c.n p (.inr ⟨rfl, hcm, HO9.out⟩) w8.heap.size rfl v HC9.out (by omega) ?_; intro b' cap' w9 k1 k2 k3 k4 k5; obtain ⟨rfl, rfl, k6⟩ := k5 (by simp) hdn; have hS9 := hA9.setKp HF.out k4 k2; clear k1 k2 k3 k4 k5 k6)
          clear HO9 HC9 hA9 hS8 cn
          have H35 : Hid (Calls Ybad.prog 35 _ _ _) := place_ok w9 c.bd c.bp c.bx c.n p.length v hn6 hvn hdn hS9.dd
          go_upto_region 58 with (go_at_call 35; refine H35.out.mono ?_; rintro e w10 ⟨⟨_, rfl⟩, q1, q2⟩)
          have hS10 := hS9.setDd HF.out q2 q1
          clear H35 q1 q2 hS9
          have cb := hS10.bf.cell (i := p.length + 1) (by have := hS10.bfl; omega)
          have fb := hS10.bf.free (p.length + 1)
          have hS11 := hS10.setBf HF.out (p.length + 1) (pre.length : Int)
          have hpc := HL.out.place HF.out hdn hvF htv HNL.out hS11 HF7.out
          have HPC : Hid (_ ∧ _) := hpc
          have hle : (p ++ [v]).length = p.length + 1 := by simp
          clear hpc hS11 hS10
          go_wp2_with fail
          go_roundg (gk - 1)
          case measure => exact HPC.out.1
          case rel => exact ⟨p ++ [v], 0, F', _, _, tt + 1, pre, by rw [hle], by rw [hle], rfl, rfl, HPC.out.2⟩
    case rest =>
      obtain ⟨pre', rfl, rfl, rfl, hS, hseq, hgk, hblt, hle⟩ := hcut
      by_cases hp0 : p = []
      · subst hp0
        have ts0 := hS.ts.cell (i := 0) (by simp)
        have wk3 : wc.cell? ⟨c.B4, 3, none⟩ = some .nilFunc := by simp [World.cell?, hS.wk]
        have H32 : Hid (Calls Ybad.prog 32 _ _ _) := steps_ok wc c.B4 c.B29 (tt : Int) wk3 ts0
        go_wp2_with (go_at_call 32; refine H32.out.mono ?_; rintro e w6 ⟨rfl, rfl⟩)
        have he : pre' = xs := by rw [← hseq]; simp [after, vis]
        exact HQ.out _ _ rfl (.inl (by rw [← he]; exact hS.jj))
      · obtain ⟨q, v, rfl⟩ : ∃ q v, p = q ++ [v] := by
          rcases List.eq_nil_or_concat p with h | ⟨q, v, h⟩
          · exact absurd h hp0
          · exact ⟨q, v, by rw [h]; simp⟩
        have hql : (q ++ [v]).length = q.length + 1 := by simp
        obtain ⟨d, hqd⟩ : ∃ d, q.length = d := ⟨_, rfl⟩
        have hvF : Free c.g q v := hL.topo q v [] (by simp)
        have hvn : v < c.n := by have := hvF.1; rw [HF.out.gn] at this; exact this
        have hov := hS.od.cell (i := d) (by omega)
        have hgv : (q ++ [v]).getD d 0 = v := by rw [← hqd]; simp [List.getD_eq_getElem?_getD]
        rw [hgv] at hov
        have hbc := hS.bf.cell (i := d + 1) (by have := hS.bfl; omega)
        have HL : Hid (Lp _ _ _ _ _ _ _ _ _ _ _) := hL
        have HS : Hid (St _ _ _ _ _ _ _ _ _ _ _) := hS
        have HSQ : Hid (_ = _) := hseq
        rw [hql, hqd] at hblt hpl
        obtain ⟨B', hB'⟩ : ∃ x, zb.getD (d + 1) 0 = x := ⟨_, rfl⟩
        rw [hB'] at hblt hbc
        have hd0 : (((d + 1 : Nat) : Int) == 0) = false := by rw [beq_eq_false_iff_ne]; omega
        have hvb : ((pre'.length : Int) == B') = false := by rw [beq_eq_false_iff_ne]; omega
        clear hL hS hseq c8
        rw [hql, hqd]
        go_upto_region 65 with fail
        have hSo := HS.out
        have HUN := untake_ok wc c.B c.g HF.out.ok c.n c.B3 c.B8 c.B9 c.B10 c.B15 c.bg c.cg c.bi c.bs c.bl c.bw c.cs F v q HF.out.gn hvF hSo.rm HL.out.isF hSo.k15
        have H30 : Hid (Calls Ybad.prog 30 _ _ _) := HUN
        clear HUN hov hbc
        go_upto_region 66 with (go_at_call 30; refine H30.out.mono ?_; rintro e w1 ⟨⟨_, rfl⟩, F', q1, q2, q3⟩)
        have hS1 := hSo.setRm HF.out q3 q1
        have HF1 : Hid (IsF _ _) := q2
        clear H30 q1 q2 q3 hSo
        have cn : w1.cell? ⟨c.bn, v, none⟩ = some (.bool false) := by simp [World.cell?, hS1.ne, hvn]
        have b1 : (v : Int) < (c.n : Int) := by omega
        have hdd := hS1.dd
        rw [hql, hqd] at hdd
        have H37 : Hid (Calls Ybad.prog 37 _ _ _) := unplace_ok w1 c.bd c.bp c.bx c.n d v hn6 hvn (by omega) hdd
        clear hdd
        go_upto_region 69 with (go_at_call 37; refine H37.out.mono ?_; rintro e w2 ⟨⟨_, rfl⟩, q1, q2⟩)
        have hS2 := hS1.setDd HF.out q2 q1
        clear H37 q1 q2 cn
        have n55 := neq55
        have wk1 : w2.cell? ⟨c.B4, 1, none⟩ = some .nilFunc := by simp [World.cell?, hS2.wk]
        have hbc := hS2.bf.cell (i := d + 1) (by have := hS2.bfl; omega)
        rw [hB'] at hbc
        have b2 : (d : Int) + 1 < (c.n : Int) + 1 := by omega
        have od' : Hb w2 c.bo c.n q := by have := hS2.od.take q.length; rwa [List.take_left] at this
        have kp' : Hb w2 c.bk c.n q := by have := hS2.kp.take q.length; rwa [List.take_left] at this
        have hS3 := (hS2.setOd HF.out (Upd.refl _ _) od').setKp HF.out (Upd.refl _ _) kp'
        have hbk := HL.out.back HF.out HSQ.out hgk (by rw [hqd, hB']; exact hblt) hle (by rw [hqd]; exact hS3) HF1.out
        have HBK : Hid (_ ∧ _) := hbk
        clear hbk hS3 od' kp' hS1 hS2
        go_wp2_with fail
        go_roundg (gk - 1)
        case measure => exact HBK.out.1
        case rel => exact ⟨q, v + 1, F', zt, zb, tt, pre', by rw [hqd], by rw [hqd], rfl, rfl, HBK.out.2⟩
end Go.Proofs.YbulkbhcsDoor
