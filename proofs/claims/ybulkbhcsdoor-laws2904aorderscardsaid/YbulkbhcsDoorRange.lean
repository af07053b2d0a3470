import Derived.Test.YbulkbhcsDoorSer
import Derived.RangeFuncKeeps
import Derived.RangeFuncLeaves
namespace Go.Proofs.YbulkbhcsDoor
open Go.RowKit

/-- Of the blocks that lay in w, those of [lo, hi) alone may have turned. -/
structure Keep (lo hi : Nat) (w w' : World) : Prop where
  os : w'.os = w.os
  tape : w'.tape = w.tape
  output : w'.output = w.output
  size : w.heap.size ≤ w'.heap.size
  same : ∀ k, k < w.heap.size → ¬ (lo ≤ k ∧ k < hi) → w'.heap[k]? = w.heap[k]?
section
variable {lo hi lo' hi' : Nat} {a b c : World}
theorem Keep.refl (lo hi : Nat) (w : World) : Keep lo hi w w := ⟨rfl, rfl, rfl, Nat.le_refl _, fun _ _ _ => rfl⟩
theorem Keep.trans (h : Keep lo hi a b) (k : Keep lo hi b c) : Keep lo hi a c :=
  ⟨k.os.trans h.os, k.tape.trans h.tape, k.output.trans h.output, Nat.le_trans h.size k.size, fun i hi hs => (k.same i (Nat.lt_of_lt_of_le hi h.size) hs).trans (h.same i hi hs)⟩
theorem Keep.mono (h : Keep lo hi a b) (h1 : lo' ≤ lo) (h2 : hi ≤ hi') : Keep lo' hi' a b := ⟨h.os, h.tape, h.output, h.size, fun k hk hs => h.same k hk (by omega)⟩
theorem Keep.of_upd {S : List Nat} (h : Upd S a b) (hS : ∀ k, k ∈ S → lo ≤ k ∧ k < hi) : Keep lo hi a b := ⟨h.os, h.tape, h.output, h.size, fun k hk hs => h.same k hk (fun x => hs (hS k x))⟩
theorem Keep.of_below {B : Nat} (h : Below B a b) (hB : a.heap.size ≤ B) : Keep lo hi a b := ⟨h.os, h.tape, h.output, h.size, fun k hk _ => h.block k (by omega)⟩
theorem Keep.drew (h : Keep lo hi a b) : Keep lo hi a b.drew := ⟨h.os, h.tape, h.output, h.size, h.same⟩
theorem Keep.setCell (h : Keep lo hi a b) {p : Addr} (hp : lo ≤ p.block ∧ p.block < hi) (u : Value) : Keep lo hi a (b.setCell p u) :=
  ⟨h.os, h.tape, h.output, by have := h.size; simpa using this, fun k hk hs => (Below.heap_setCell _ _ _ _ (fun e => hs (by rw [e]; exact hp))).trans (h.same k hk hs)⟩
theorem Keep.alloc (h : Keep lo hi a b) (o : Obj) : Keep lo hi a (b.alloc o) :=
  ⟨h.os, h.tape, h.output, by have := h.size; simp; omega, fun k hk hs => (Below.heap_alloc _ _ _ (Nat.lt_of_lt_of_le hk h.size)).trans (h.same k hk hs)⟩
theorem Keep.put (a : World) {l : Nat} (hl : lo ≤ l ∧ l < hi) (o : Obj) : Keep lo hi a (a.putObj l o) :=
  ⟨rfl, rfl, rfl, by simp, fun k _ hs => World.putObj_heap_other (fun e => hs (by rw [e]; exact hl))⟩
end
/-- Block b begins with the numbers x. -/
def Cells (w : World) (b : Nat) (x : List Int) : Prop := ∀ i, i < x.length → w.cell? ⟨b, i, none⟩ = some (.int .i64 (x.getD i 0))
theorem Cells.of_block {w w' : World} {b : Nat} {x : List Int} (h : Cells w b x) (hb : w'.heap[b]? = w.heap[b]?) : Cells w' b x := fun i hi => (World.cell?_of_block (a := ⟨b, i, none⟩) (w := w) hb).trans (h i hi)
theorem Cells.lt {w : World} {b : Nat} {x : List Int} (h : Cells w b x) (hx : 0 < x.length) : b < w.heap.size := World.block_lt_of_cell? w ⟨b, 0, none⟩ (h 0 hx)
/-- The blocks of [lo, hi) lie as they lay. -/
def Same (lo hi : Nat) (w w' : World) : Prop := w.heap.size ≤ w'.heap.size ∧ ∀ k, lo ≤ k → k < hi → w'.heap[k]? = w.heap[k]?
theorem Same.refl (lo hi : Nat) (w : World) : Same lo hi w w := ⟨Nat.le_refl _, fun _ _ _ => rfl⟩
theorem Same.trans {lo hi : Nat} {a b c : World} (h : Same lo hi a b) (k : Same lo hi b c) : Same lo hi a c := ⟨Nat.le_trans h.1 k.1, fun i h1 h2 => (k.2 i h1 h2).trans (h.2 i h1 h2)⟩
theorem Same.mono {lo hi lo' hi' : Nat} {a b : World} (h : Same lo hi a b) (h1 : lo ≤ lo') (h2 : hi' ≤ hi) : Same lo' hi' a b := ⟨h.1, fun k k1 k2 => h.2 k (by omega) (by omega)⟩
/-- J abides what the iterator does. -/
def Stable (B0 : Nat) (J : Nat → List (List Int) → World → Prop) : Prop := ∀ B1 pre A B, J B1 pre A → Keep B0 B1 A B → J B1 pre B
/-- What each round does. -/
def Rounds (l B0 n : Nat) (xs : List (List Int)) (J Jx : Nat → List (List Int) → World → Prop) : Prop :=
  ∀ (m B1 : Nat) (pre : List (List Int)) (x : List Int) (bo cap : Nat) (A : World), B0 ≤ bo → bo < B1 → B1 ≤ A.heap.size → pre ++ [x] <+: xs → x.length = n → J B1 pre A → Cells A bo x →
    YieldAt Fence.wide m Ybad.prog l #[.slice (some ⟨bo, 0, none⟩) n cap] A fun e A' => Same B0 B1 A A' ∧ ((e = .returned (.bool true) ∧ J B1 (pre ++ [x]) A') ∨ (e = .returned (.bool false) ∧ Jx B1 (pre ++ [x]) A'))
/-- The call hands out the rows xs, one after the other. -/
def Seq (f : Nat) (args : Nat → Array Value) (n : Nat) (xs : List (List Int)) (G : World → Prop) (W : World) : Prop :=
  ∀ (l : Nat) (J Jx : Nat → List (List Int) → World → Prop), Stable W.heap.size J → Stable W.heap.size Jx → (∀ B1 pre A, J B1 pre A → G A) →
    (∀ B1 A, W.heap.size ≤ B1 → B1 ≤ A.heap.size → Below W.heap.size W A → J B1 [] A) → Rounds l W.heap.size n xs J Jx →
    Calls Ybad.prog f (args l) W fun e W' => (∃ v, e = .returned v) ∧ ∃ B1, W.heap.size ≤ B1 ∧ (J B1 xs W' ∨ ∃ pre, pre <+: xs ∧ pre ≠ [] ∧ Jx B1 pre W')

/-- How a round's body may be left. -/
def bpost (lo hi : Nat) (I : Nat → List (List Int) → World → Prop) (Ix : Code → Nat → List (List Int) → World → Prop) (xs : List (List Int)) (A : World) : Exit → Act → World → Prop
  | .normal, _, A' => Same lo hi A A' ∧ I hi xs A'
  | .ret, _, A' => Same lo hi A A' ∧ Ix .ret hi xs A'
  | .exit id, _, A' => Same lo hi A A' ∧ Ix (.exit id) hi xs A'
  | .goto _, _, _ => False
  | .panic _, _, _ => False
  | .outgrown, _, _ => False

theorem wp_range {g : Operand} {ps : Array Tmp} {assign body : Code} {Q : Exit → Act → World → Prop} {a : Act} {w : World}
    {gf : Nat} {lb : Array Value} (hg : a.eval g = .func (.func gf) #[] lb) (eg : ∀ args w, (callFunc gf args).run Ybad.prog w = .ok (.enter gf args) w) (hps : ps.size = 1)
    {n : Nat} {xs : List (List Int)} {G : World → Prop} (hseq : ∀ W, Below w.heap.size w W → Seq gf (fun l => #[.func (.yield l) #[] #[]] ++ lb) n xs G W)
    (I : Nat → List (List Int) → World → Prop) (Ix : Code → Nat → List (List Int) → World → Prop) (hI : Stable w.heap.size I) (hIx : ∀ c, Stable w.heap.size (Ix c)) (hG : ∀ B1 pre A, I B1 pre A → G A)
    (h0 : ∀ B1 A, w.heap.size ≤ B1 → B1 ≤ A.heap.size → Below w.heap.size w A → I B1 [] A) (a₁ : Value → Act)
    (hassign : ∀ (l m : Nat) (v : Value) (W : World) (K : Act → World → Prop), K (a₁ v) W →
      assign.wpIn (Fence.wide.inRound l) m Ybad.prog (Exit.then K (fun _ _ _ => False)) { tmps := (ps.zip #[v]).foldl (fun t (p, v) => t.setIfInBounds p v) a.tmps, defers := [] } W)
    (hbody : ∀ (l m B1 : Nat) (pre : List (List Int)) (x : List Int) (bo cap : Nat) (A : World), w.heap.size ≤ bo → bo < B1 → B1 ≤ A.heap.size → pre ++ [x] <+: xs → x.length = n → I B1 pre A → Cells A bo x →
      body.wpIn (Fence.wide.inRound l) m Ybad.prog (bpost w.heap.size B1 I Ix (pre ++ [x]) A) (a₁ (.slice (some ⟨bo, 0, none⟩) n cap)) A)
    (hdone : ∀ (D B1 : Nat) (W : World), w.heap.size ≤ D → D < B1 → I B1 xs W → W.heap[D]? = some (.deferred (some [])) → Q .normal { a with defers := { target := .collected D, args := #[] } :: a.defers } W)
    (hstop : ∀ (D B1 : Nat) (c : Code) (pre : List (List Int)) (W : World), w.heap.size ≤ D → D < B1 → pre <+: xs → pre ≠ [] → Ix c B1 pre W → W.heap[D]? = some (.deferred (some [])) → c.wp Ybad.prog Q { a with defers := { target := .collected D, args := #[] } :: a.defers } W) :
    (Code.rangeFunc g ps assign body).wp Ybad.prog Q a w := by
  refine (wpIn_wide (n := 9)).1 (wpIn_rangeFunc ?_)
  intro fn hfn
  obtain ⟨rec, hrec⟩ : ∃ rec : LoopState → Option Code → Loop, rec = fun st pe => { state := st, pending := pe, fn, tmps := a.tmps, params := ps, assign, body, defers := w.heap.size } := ⟨_, rfl⟩
  obtain ⟨W1, hW1⟩ : ∃ W1, (w.alloc (.deferred (some []))).alloc (.loop (rec .ready none)) = W1 := ⟨_, rfl⟩
  have hL1 : W1.heap[w.heap.size + 1]? = some (.loop (rec .ready none)) := by
    rw [← hW1]; have := World.alloc_heap_new (w.alloc (.deferred (some []))) (.loop (rec .ready none)); rwa [World.size_alloc] at this
  have hK1 : W1.heap[w.heap.size]? = some (.deferred (some [])) := by
    rw [← hW1]; exact (Below.heap_alloc _ _ _ (by simp)).trans (World.alloc_heap_new w _)
  have hs1 : W1.heap.size = w.heap.size + 2 := by rw [← hW1]; simp
  have hb1 : Below w.heap.size w W1 := by rw [← hW1]; exact ((Below.refl _ w).alloc (Nat.le_refl _) _).alloc (by simp) _
  refine ⟨w.heap.size + 1, [{ target := .collected w.heap.size, args := #[] }], W1, { target := .fn (.func gf) lb, args := #[.func (.yield (w.heap.size + 1)) #[] #[]] }, W1, gf,
    #[.func (.yield (w.heap.size + 1)) #[] #[]] ++ lb, W1, ?_, ?_, fun _ _ => trivial, ?_, (fun _ => by decide), ?_⟩
  · rw [← hW1, hrec]; exact run_enterLoop_outer _ _ _ _ _
  · simp only [resolve, hg]
    simp [go_sem]
  · simp [invoke, go_sem, eg]
  · refine callsIn_wide.2 ?_
    refine (hseq W1 hb1 (w.heap.size + 1)
      (fun B1 pre W => I B1 pre W ∧ W.heap[w.heap.size + 1]? = some (.loop (rec .ready none)) ∧ W.heap[w.heap.size]? = some (.deferred (some [])))
      (fun B1 pre W => ∃ c, Ix c B1 pre W ∧ w.heap.size + 1 < B1 ∧ W.heap[w.heap.size + 1]? = some (.loop (rec .done (some c))) ∧ W.heap[w.heap.size]? = some (.deferred (some [])))
      ?_ ?_ (fun B1 pre A h => hG B1 pre A h.1) ?_ ?_).mono ?_
    · rintro B1 pre A B ⟨h1, h2, h3⟩ hk
      exact ⟨hI _ _ _ _ h1 (hk.mono (by omega) (Nat.le_refl _)), (hk.same _ (lt_of_block h2) (by omega)).trans h2, (hk.same _ (lt_of_block h3) (by omega)).trans h3⟩
    · rintro B1 pre A B ⟨c, h1, hB, h2, h3⟩ hk
      exact ⟨c, hIx c _ _ _ _ h1 (hk.mono (by omega) (Nat.le_refl _)), hB, (hk.same _ (lt_of_block h2) (by omega)).trans h2, (hk.same _ (lt_of_block h3) (by omega)).trans h3⟩
    · intro B1 A q1 q2 hb
      exact ⟨h0 B1 A (by omega) q2 (hb1.trans (hb.mono (by omega))), (hb.block _ (by omega)).trans hL1, (hb.block _ (by omega)).trans hK1⟩
    · rintro m B1 pre x bo cap A q1 q2 q3 hpre hx ⟨hi, hl, hk⟩ hc
      rw [hs1] at q1
      have hlt : w.heap.size + 1 < A.heap.size := lt_of_block hl
      have hy := run_yield (P := Ybad.prog) (args := #[.slice (some ⟨bo, 0, none⟩) n cap]) hl (by rw [hrec]; exact hps.symm)
      rw [hrec] at hy
      refine ⟨fn, _, assign, body, hy, roundIn_of_wpIn hfn (hassign _ _ _ A _ ⟨_, run_beginRound hl (by rw [hrec]), ?_⟩)⟩
      obtain ⟨A2, hA2⟩ : ∃ A2, A.putObj (w.heap.size + 1) (.loop { rec .ready none with state := .busy }) = A2 := ⟨_, rfl⟩
      rw [hA2]
      have hl2 : A2.heap[w.heap.size + 1]? = some (.loop { rec .ready none with state := .busy }) := by rw [← hA2]; exact World.putObj_heap_same hlt
      have hoth : ∀ k, k ≠ w.heap.size + 1 → A2.heap[k]? = A.heap[k]? := fun k hk => by rw [← hA2]; exact World.putObj_heap_other hk
      have hk2 := (hoth w.heap.size (by omega)).trans hk
      have hsz2 : A2.heap.size = A.heap.size := by rw [← hA2]; simp
      have hi2 : I B1 pre A2 := by rw [← hA2]; exact hI _ _ _ _ hi (Keep.put A (by omega) _)
      refine wpIn_mono (hbody _ m B1 pre x bo cap A2 (by omega) q2 (by omega) hpre hx hi2 (hc.of_block (hoth bo (by omega)))) ?_
      have fin : ∀ (jump : Option Code) (W3 : World), Same w.heap.size B1 A2 W3 → ∃ W4,
          (Instr.endRound (w.heap.size + 1) jump).run Ybad.prog W3 = .ok (.bool jump.isNone) W4 ∧ Keep w.heap.size B1 W3 W4 ∧ Same W1.heap.size B1 A W4 ∧
          W4.heap[w.heap.size + 1]? = some (.loop (rec (if jump.isNone then .ready else .done) jump)) ∧ W4.heap[w.heap.size]? = some (.deferred (some [])) := fun jump W3 hk3 => by
        have hl3 := (hk3.2 (w.heap.size + 1) (by omega) (by omega)).trans hl2
        have hr := run_endRound (P := Ybad.prog) jump hl3
        refine ⟨_, hr, Keep.put W3 (by omega) _, ⟨by simp; have := hk3.1; omega, fun k k1 k2 => ?_⟩, ?_, ?_⟩
        · exact (World.putObj_heap_other (by omega)).trans ((hk3.2 k (by omega) k2).trans (hoth k (by omega)))
        · rw [World.putObj_heap_same (lt_of_block hl3), hrec]
        · exact (World.putObj_heap_other (by omega)).trans ((hk3.2 _ (by omega) (by omega)).trans hk2)
      rintro e a3 W3 hp
      cases e with
      | normal =>
        obtain ⟨hk3, hi3⟩ := hp
        obtain ⟨W4, hr, hkp, hsm, hl4, hk4⟩ := fin none W3 hk3
        exact ⟨_, _, hr, hsm, .inl ⟨rfl, hI _ _ _ _ hi3 hkp, hl4, hk4⟩⟩
      | ret =>
        obtain ⟨hk3, hi3⟩ := hp
        obtain ⟨W4, hr, hkp, hsm, hl4, hk4⟩ := fin (some .ret) W3 hk3
        exact ⟨_, _, hr, hsm, .inr ⟨rfl, .ret, hIx _ _ _ _ _ hi3 hkp, by omega, hl4, hk4⟩⟩
      | exit id =>
        obtain ⟨hk3, hi3⟩ := hp
        obtain ⟨W4, hr, hkp, hsm, hl4, hk4⟩ := fin (some (.exit id)) W3 hk3
        exact ⟨_, _, hr, hsm, .inr ⟨rfl, .exit id, hIx _ _ _ _ _ hi3 hkp, by omega, hl4, hk4⟩⟩
      | goto t => exact hp.elim
      | panic ch => exact hp.elim
      | outgrown => exact hp.elim
    · rintro e W2 ⟨⟨v, rfl⟩, B1, hB, (⟨hi, hl, hk⟩ | ⟨pre, hpre, hne, c, hi, _, hl, hk⟩)⟩
      · refine ⟨none, _, by have := run_endLoop (P := Ybad.prog) hl (by rw [hrec]; simp); rw [hrec] at this; exact this, ?_⟩
        exact hdone w.heap.size B1 _ (Nat.le_refl _) (by omega) (hI _ _ _ _ hi (Keep.put W2 (by omega) _)) ((World.putObj_heap_other (by omega)).trans hk)
      · refine ⟨some c, _, by have := run_endLoop (P := Ybad.prog) hl (by rw [hrec]; simp); rw [hrec] at this; exact this, ?_⟩
        exact wpIn_wide.2 (hstop w.heap.size B1 c pre _ (Nat.le_refl _) (by omega) hpre hne (hIx c _ _ _ _ hi (Keep.put W2 (by omega) _)) ((World.putObj_heap_other (by omega)).trans hk))
end Go.Proofs.YbulkbhcsDoor
