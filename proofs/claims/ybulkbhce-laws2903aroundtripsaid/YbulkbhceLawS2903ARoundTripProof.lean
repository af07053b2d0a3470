import Derived.Test.YbulkbhceRows
import Derived.Test.YbulkbhceTrip
import Derived.WalkKit
import Derived.ProofKit
import Derived.OpenShut
import Derived.ShutString
import Derived.ChangeOld
import Derived.Below
namespace Go.Proofs.Ybulkbhce.lawS2903ARoundTrip
open Go.ChangeShapes Go.WideShapes Go.ChangeAt Go.RowKit
open Go.ChangeMaps (open_string shut_string)
set_option linter.unusedVariables false

theorem own : ownKnob Yba.prog.godebug = none := by kernel_rfl
theorem laidOut : laidOutB Yba.prog = true := by kernel_rfl
theorem cells24 : Yba.prog.cellsOf 24 = 32 := by kernel_rfl

/-- An array of 32 bytes that came in, opened. -/
theorem open_arr {H : Type} {enc : TypeId × Value → H} {W : World} {base : Nat} {spare : Nat → Bool} {held : Bool} {r : Reach} {b0 : Nat} {v : Value} {d : DataW H} {p : List MemPlace}
    (hv : Value.okWide Yba.prog W r b0 24 v) (h : DataW.Trod enc Yba.prog W base spare held 24 v d p) :
    ∃ G : List Int, v = .agg (bcells G).toArray ∧ G.length = 32 ∧ ∀ i, i < 32 → By (G.getD i 0) := by
  simp only [Value.okWide, Yba.underlying24] at hv
  obtain ⟨cs, rfl, hsz, _⟩ := hv
  rw [cells24] at hsz
  obtain ⟨fuel, hf⟩ := h
  obtain ⟨xs, m, _, _, _, hxl, hx⟩ := DataW.trod_array Yba.underlying24 hf
  have key : ∀ i, i < 32 → ∃ n : Int, cs[i]? = some (.int .u8 n) ∧ By n := by
    intro i hi
    have h1 := hx i hi
    rw [cells5, Nat.mul_one] at h1
    have hlt : i < xs.length := by omega
    rw [List.getElem?_eq_getElem hlt] at h1
    obtain ⟨n, e, _, wn⟩ := DataW.trod_int Yba.underlying5 h1
    refine ⟨n, ?_, by simpa [By, Lit.wf, IntKind.min, IntKind.max, IntKind.bits, IntKind.signed] using wn⟩
    have hil : i < cs.toList.length := by simp; omega
    have e2 : ((Value.agg cs).cells.toList.drop i).take 1 = [cs.toList[i]'hil] := by
      show (cs.toList.drop i).take 1 = _
      rw [List.drop_eq_getElem_cons hil]; rfl
    rw [e2] at e
    have e3 : cs.toList[i]'hil = .int .u8 n := by simpa using e
    rw [← Array.getElem?_toList, List.getElem?_eq_getElem hil, e3]
  have hG : ∃ G : List Int, G.length = 32 ∧ ∀ i, i < 32 → cs[i]? = some (.int .u8 (G.getD i 0)) ∧ By (G.getD i 0) := by
    refine ⟨(List.range 32).map (fun i => (cs[i]?.map intOf).getD 0), by simp, fun i hi => ?_⟩
    obtain ⟨n, hn, hb⟩ := key i hi
    have e : ((List.range 32).map (fun i => (cs[i]?.map intOf).getD 0)).getD i 0 = n := by
      rw [List.getD_eq_getElem?_getD, List.getElem?_map, List.getElem?_range hi]
      simp [hn, intOf]
    rw [e]; exact ⟨hn, hb⟩
  obtain ⟨G, hl, hg⟩ := hG
  refine ⟨G, ?_, hl, fun i hi => (hg i hi).2⟩
  congr 1
  apply Array.ext_getElem?
  intro i
  by_cases hi : i < 32
  · rw [(hg i hi).1, List.getElem?_toArray, bcells, List.getElem?_map, List.getD_eq_getElem?_getD, List.getElem?_eq_getElem (by omega)]; rfl
  · rw [Array.getElem?_eq_none (by omega), Array.getElem?_eq_none (by simp [bcells]; omega)]

/-- WHAT IS KNOWN OF A SLICE OF BYTES THAT CAME IN. -/
def IsRow (w : World) (a : Option Addr) (len cap : Nat) (zs : List Int) : Prop :=
  (a = none ∧ len = 0 ∧ cap = 0 ∧ zs = []) ∨
  ∃ x, a = some x ∧ len ≤ cap ∧ cap ≤ maxLen ∧ zs.length = cap ∧ (∀ i, i < zs.length → w.cell? (x.add i) = some (.int .u8 (zs.getD i 0))) ∧ ∀ n ∈ zs, (Lit.int .u8 n).wf = true

theorem walk (s : ByteArray) (ep : Int) (G : List Int) (a3 : Option Addr) (len3 cap3 : Nat) (z3 : List Int) (w : World) (hs : s.size ≤ maxLen) (he : (Lit.int .u64 ep).wf = true) (hG : G.length = 32) (hgb : ∀ i, i < 32 → By (G.getD i 0)) (w3 : IsRow w a3 len3 cap3 z3) :
    Calls Yba.prog 4 #[.string s, .int .u64 ep, .agg (bcells G).toArray, .slice a3 len3 cap3] w fun e w' => e = .returned (.bool true) ∧ Below w.heap.size w w' := by
  have heb : 0 ≤ ep ∧ ep < 18446744073709551616 := by
    have h : 0 ≤ ep ∧ ep ≤ 18446744073709551615 := by simpa [Lit.wf, IntKind.min, IntKind.max, IntKind.bits, IntKind.signed] using he
    omega
  by_cases hl : 1024 < len3
  · have hm : len3 ≤ maxLen := by
      rcases w3 with ⟨_, rfl, _, _⟩ | ⟨x, _, h1, h2, _⟩
      · exact Nat.zero_le _
      · omega
    exact trip_long s ep _ a3 len3 cap3 w hl hm
  refine trip_any s ep G a3 len3 cap3 (z3.take len3) w hs heb.1 heb.2 hG hgb (by omega) ?_ ?_
  · rcases w3 with ⟨rfl, rfl, rfl, rfl⟩ | ⟨x, rfl, h1, h2, h3, h4, h5⟩
    · exact ⟨rfl, fun _ => rfl, fun x hx => by cases hx⟩
    · refine ⟨by simp; omega, (fun h => by cases h), fun y hy j n hn => ?_⟩
      simp only [Option.some.injEq] at hy
      subst hy
      have hj := (List.getElem?_eq_some_iff.1 hn).1
      simp at hj
      rw [List.getElem?_take_of_lt (by omega)] at hn
      rw [h4 j (by omega), List.getD_eq_getElem?_getD, hn]; rfl
  · intro i hi
    simp at hi
    rcases w3 with ⟨rfl, rfl, rfl, rfl⟩ | ⟨x, rfl, h1, h2, h3, h4, h5⟩
    · simp at hi
    · have e : (z3.take len3).getD i 0 = z3.getD i 0 := by
        rw [List.getD_eq_getElem?_getD, List.getElem?_take_of_lt (by omega), List.getD_eq_getElem?_getD]
      rw [e]
      have hm : z3.getD i 0 ∈ z3 := by
        rw [List.getD_eq_getElem?_getD, List.getElem?_eq_getElem (by omega)]
        exact List.getElem_mem _
      have := h5 _ hm
      simpa [By, Lit.wf, IntKind.min, IntKind.max, IntKind.bits, IntKind.signed] using this

set_option maxRecDepth 100000 in
theorem lifted (os : Os) (started : os.Started) (H : Type) (enc : TypeId × Value → H) :
    ReturnsInHanded {} Yba.checked os 4 .any (Rows.lawS2903ARoundTripSpec.pre6 enc Yba.prog Yba.f4 Rows.lawS2903ARoundTripRow.domain false) (Rows.lawS2903ARoundTripSpec.post enc Yba.prog Yba.f4 false true false false) := by
  refine returnsInHanded_of_change (C := Yba.checked) own started (by kernel_rfl) Yba.func4
    (ChangeSpec.witness6 (enc := enc) (C := Yba.checked) false ⟨#[], #[.string ⟨#[]⟩, .int .u64 0, .agg (Array.replicate 32 (.int .u8 0)), .slice none 0 0], []⟩ 8 (by kernel_rfl) (by kernel_rfl) (by kernel_rfl) (by kernel_rfl)) ?_
  intro W base args ds gs before hval0 hW hcnd _
  have hval : ∀ (j : Nat) t v, Yba.f4.params[j]? = some t → args[j]? = some v → Value.okWide Yba.prog W .any base t v := hval0
  have hW' := hW
  obtain ⟨p, q, hA0, hV, rfl, hfz, hnd⟩ := hW
  have hA : DataW.TrodAll enc Yba.prog W 0 (fun _ => true) true Yba.f4.params.toList args.toList ds p := hA0
  rw [Yba.params4] at hA hval
  obtain ⟨v0, vs0, d0, ds0, p0, q0, hargs, rfl, rfl, h0, r0⟩ := trodAll_cons hA
  obtain ⟨v1, vs1, d1, ds1, p1, q1, rfl, rfl, rfl, h1, r1⟩ := trodAll_cons r0
  obtain ⟨v2, vs2, d2, ds2, p2, q2, rfl, rfl, rfl, h2, r2⟩ := trodAll_cons r1
  obtain ⟨v3, vs3, d3, ds3, p3, q3, rfl, rfl, rfl, h3, r3⟩ := trodAll_cons r2
  obtain ⟨rfl, rfl, rfl⟩ := trodAll_nil r3
  obtain rfl : args = #[v0, v1, v2, v3] := by cases args; simp_all
  obtain ⟨rfl, rfl⟩ := trodVars_none hV
  have k0 := h0
  have k1 := h1
  have k2 := h2
  have k3 := h3
  have lt0 : ∀ x ∈ p0, x.block < W.heap.size := by obtain ⟨m, hm⟩ := k0; exact DataW.trod_lt m _ _ _ hm
  have lt1 : ∀ x ∈ p1, x.block < W.heap.size := by obtain ⟨m, hm⟩ := k1; exact DataW.trod_lt m _ _ _ hm
  have lt2 : ∀ x ∈ p2, x.block < W.heap.size := by obtain ⟨m, hm⟩ := k2; exact DataW.trod_lt m _ _ _ hm
  have lt3 : ∀ x ∈ p3, x.block < W.heap.size := by obtain ⟨m, hm⟩ := k3; exact DataW.trod_lt m _ _ _ hm
  obtain ⟨s, hv0, _, _, hs⟩ := open_string Yba.underlying9 (hval 0 9 v0 rfl rfl) h0
  obtain ⟨ep, hv1, _, _, we⟩ := open_int Yba.underlying23 (hval 1 23 v1 rfl rfl) h1
  obtain ⟨G, hv2, hG, hgb⟩ := open_arr (hval 2 24 v2 rfl rfl) h2
  subst hv0 hv1 hv2
  obtain ⟨a3, len3, cap3, rfl⟩ := okWide_slice Yba.underlying22 (hval 3 22 v3 rfl rfl)
  obtain ⟨z3, w3⟩ : ∃ zs, IsRow W a3 len3 cap3 zs := by
    obtain ⟨fuel, hf⟩ := h3
    rcases open_ints Yba.underlying22 Yba.underlying5 (by kernel_rfl) hf with ⟨hcs, _⟩ | ⟨x, l, c, zs, hcs, _, hl, hm, hz, _, hcell, hwz⟩
    · simp [Value.cells] at hcs
      obtain ⟨rfl, rfl, rfl⟩ := hcs
      exact ⟨[], .inl ⟨rfl, rfl, rfl, rfl⟩⟩
    · simp [Value.cells] at hcs
      obtain ⟨rfl, rfl, rfl⟩ := hcs
      exact ⟨zs, .inr ⟨_, rfl, hl, hm, by simpa using hz, hcell, hwz⟩⟩
  clear hA0 hval0
  refine (walk s ep G a3 len3 cap3 z3 W hs we hG hgb w3).mono fun e W' ⟨he, bel⟩ => ?_
  subst he
  exact ⟨_, rfl, _, _, _, [], _, [], hW', trodAll_mk1 (shut_bool Yba.underlying4 _), (trodAll_cons_mk (Below.trod laidOut (by kernel_rfl) (of_decide_eq_true (by kernel_rfl)) k0 bel lt0) (trodAll_cons_mk (Below.trod laidOut (by kernel_rfl) (of_decide_eq_true (by kernel_rfl)) k1 bel lt1) (trodAll_cons_mk (Below.trod laidOut (by kernel_rfl) (of_decide_eq_true (by kernel_rfl)) k2 bel lt2) (trodAll_cons_mk (Below.trod laidOut (by kernel_rfl) (of_decide_eq_true (by kernel_rfl)) k3 bel lt3) trodAll_mk0)))), rfl, bel.frame _, fun h => by cases h⟩

theorem over : Rows.lawS2903ARoundTripRow.holds Yba.pinned (OpenSpec.ofChange Rows.lawS2903ARoundTripSpec) :=
  OpenClaim.holds_of_wide 4 Yba.f4 rfl rfl rfl rfl rfl rfl rfl ⟨rfl, rfl, rfl, rfl, rfl⟩ rfl rfl rfl rfl rfl (by kernel_rfl) Yba.func4 (by kernel_rfl)
    (of_decide_eq_true (by kernel_rfl)) (by unfold Func.isWrapper; first | (rw [if_pos (by decide +kernel)]; kernel_rfl) | (rw [if_neg (by decide +kernel)]; exact ⟨rfl, rfl⟩))
    (fun os started H enc _ => lifted os started H enc)

/-- THE STATEMENT -/
theorem proved : Rows.LawS2903ARoundTripSaid := over
end Go.Proofs.Ybulkbhce.lawS2903ARoundTrip
namespace Go.Proofs.Ybulkbhce
theorem lawS2903ARoundTrip_proved : Rows.LawS2903ARoundTripSaid := lawS2903ARoundTrip.proved
end Go.Proofs.Ybulkbhce
