import Derived.Test.YbulkbhaaBlk
import Derived.Deep.Draws
import Derived.WalkSmall
namespace Go.Proofs.Ybulkbhaa
open Go.RowKit

/-- Block b is a row of n numbers of int64, the first k of them E's. -/
def Es (w : World) (b n k : Nat) (E : Nat → Int) : Prop :=
  ∃ cs : Array Value, w.heap[b]? = some (.cells cs 2 (0, 0)) ∧ cs.size = n ∧ ∀ i, i < k → cs[i]? = some (.int .i64 (E i))
/-- Block b is a row of n words of 128 bits, the first k of them E's. -/
def Tb (w : World) (b n k : Nat) (E : Nat → Int) : Prop :=
  ∃ cs : Array Value, w.heap[b]? = some (.cells cs 31 (0, 0)) ∧ cs.size = n * 2 ∧ ∀ i, i < k → cs[i * 2]? = some (.int .i64 (hi (E i))) ∧ cs[i * 2 + 1]? = some (.int .u64 (lo (E i)))

section
variable {w w' : World} {b n k : Nat} {E : Nat → Int}
theorem Es.cell (h : Es w b n k E) {i : Nat} (hi : i < k) : w.cell? ⟨b, i, none⟩ = some (.int .i64 (E i)) := by
  obtain ⟨cs, h1, h2, h3⟩ := h
  simp [World.cell?, h1, h3 i hi]
theorem Es.any (h : Es w b n k E) {i : Nat} (hi : i < n) : ∃ v, w.cell? ⟨b, i, none⟩ = some v := by
  obtain ⟨cs, h1, h2, h3⟩ := h
  exact ⟨cs[i]'(by omega), by simp [World.cell?, h1, h2, hi]⟩
theorem Es.free (h : Es w b n k E) (i : Nat) : w.frozen? ⟨b, i, none⟩ = false := by
  obtain ⟨cs, h1, h2, h3⟩ := h
  simp [World.frozen?, h1]
theorem Es.lt (h : Es w b n k E) : b < w.heap.size := by
  obtain ⟨cs, h1, h2, h3⟩ := h
  exact lt_of_block h1
theorem Es.of_block (h : Es w b n k E) (hb : w'.heap[b]? = w.heap[b]?) : Es w' b n k E := by
  obtain ⟨cs, h1, h2, h3⟩ := h
  exact ⟨cs, hb.trans h1, h2, h3⟩
theorem Es.set (h : Es w b n k E) (hk : k < n) : Es (w.setCell ⟨b, k, none⟩ (.int .i64 (E k))) b n (k + 1) E := by
  obtain ⟨cs, h1, h2, h3⟩ := h
  refine ⟨_, heap_set h1 _, by simpa using h2, fun i hi => ?_⟩
  rw [Array.getElem?_setIfInBounds]
  by_cases e : k = i
  · subst e
    rw [if_pos rfl, if_pos (by omega)]
  · rw [if_neg e]; exact h3 i (by omega)
theorem Tb.c0 (h : Tb w b n k E) {i : Nat} (hi : i < k) : w.cell? ⟨b, i * 2, none⟩ = some (.int .i64 (Ybulkbhaa.hi (E i))) := by
  obtain ⟨cs, h1, h2, h3⟩ := h
  simp [World.cell?, h1, (h3 i hi).1]
theorem Tb.c1 (h : Tb w b n k E) {i : Nat} (hi : i < k) : w.cell? ⟨b, i * 2 + 1, none⟩ = some (.int .u64 (lo (E i))) := by
  obtain ⟨cs, h1, h2, h3⟩ := h
  simp [World.cell?, h1, (h3 i hi).2]
theorem Tb.any (h : Tb w b n k E) {i : Nat} (hi : i < n * 2) : ∃ v, w.cell? ⟨b, i, none⟩ = some v := by
  obtain ⟨cs, h1, h2, h3⟩ := h
  exact ⟨cs[i]'(by omega), by simp [World.cell?, h1, h2, hi]⟩
theorem Tb.free (h : Tb w b n k E) (i : Nat) : w.frozen? ⟨b, i, none⟩ = false := by
  obtain ⟨cs, h1, h2, h3⟩ := h
  simp [World.frozen?, h1]
theorem Tb.lt (h : Tb w b n k E) : b < w.heap.size := by
  obtain ⟨cs, h1, h2, h3⟩ := h
  exact lt_of_block h1
theorem Tb.of_block (h : Tb w b n k E) (hb : w'.heap[b]? = w.heap[b]?) : Tb w' b n k E := by
  obtain ⟨cs, h1, h2, h3⟩ := h
  exact ⟨cs, hb.trans h1, h2, h3⟩
theorem Tb.set (h : Tb w b n k E) (hk : k < n) : Tb ((w.setCell ⟨b, k * 2, none⟩ (.int .i64 (hi (E k)))).setCell ⟨b, k * 2 + 1, none⟩ (.int .u64 (lo (E k)))) b n (k + 1) E := by
  obtain ⟨cs, h1, h2, h3⟩ := h
  refine ⟨_, heap_set (heap_set h1 _) _, by simpa using h2, fun i hi => ?_⟩
  by_cases e : i = k
  · subst e
    constructor
    · rw [Array.getElem?_setIfInBounds_ne (by omega), Array.getElem?_setIfInBounds_self_of_lt (by omega)]
    · rw [Array.getElem?_setIfInBounds_self_of_lt (by simp; omega)]
  · constructor
    · rw [Array.getElem?_setIfInBounds_ne (by omega), Array.getElem?_setIfInBounds_ne (by omega)]; exact (h3 i (by omega)).1
    · rw [Array.getElem?_setIfInBounds_ne (by omega), Array.getElem?_setIfInBounds_ne (by omega)]; exact (h3 i (by omega)).2
end

/-- The two rows that the law makes. -/
structure Arr (W w : World) (be bt n k m : Nat) (E : Nat → Int) : Prop where
  below : Below W.heap.size W w
  es : Es w be n k E
  tb : Tb w bt n m E
  ne : be ≠ bt
  ge : W.heap.size ≤ be
  gt : W.heap.size ≤ bt

section
variable {W w w' : World} {be bt n k m : Nat} {E : Nat → Int}
theorem Arr.on (h : Arr W w be bt n k m E) (hb : Below w.heap.size w w') : Arr W w' be bt n k m E :=
  ⟨h.below.trans (hb.mono h.below.size), h.es.of_block (hb.block _ h.es.lt), h.tb.of_block (hb.block _ h.tb.lt), h.ne, h.ge, h.gt⟩
theorem Arr.alloc (h : Arr W w be bt n k m E) (o : Obj) : Arr W (w.alloc o) be bt n k m E :=
  h.on ((Below.refl _ _).alloc (Nat.le_refl _) o)
theorem Arr.drew (h : Arr W w be bt n k m E) : Arr W w.drew be bt n k m E := h.on (Below.refl _ _).drew
theorem Arr.setE (h : Arr W w be bt n k m E) (hk : k < n) : Arr W (w.setCell ⟨be, k, none⟩ (.int .i64 (E k))) be bt n (k + 1) m E :=
  ⟨h.below.setCell h.ge _, h.es.set hk, h.tb.of_block (Below.heap_setCell _ _ _ _ (Ne.symm h.ne)), h.ne, h.ge, h.gt⟩
theorem Arr.setT (h : Arr W w be bt n k m E) (hk : m < n) : Arr W ((w.setCell ⟨bt, m * 2, none⟩ (.int .i64 (hi (E m)))).setCell ⟨bt, m * 2 + 1, none⟩ (.int .u64 (lo (E m)))) be bt n k (m + 1) E :=
  ⟨(h.below.setCell h.gt _).setCell h.gt _, (h.es.of_block (Below.heap_setCell _ _ _ _ h.ne)).of_block (Below.heap_setCell _ _ _ _ h.ne), h.tb.set hk, h.ne, h.ge, h.gt⟩

/-- Behind the two makes. -/
theorem Arr.make {w w1 w2 : World} {n : Nat} {xs ys : List Value} (E : Nat → Int)
    (h1 : w1.ownsRow w.heap.size 2 1 (.slice (some ⟨w.heap.size, 0, none⟩) n n) n xs) (g1 : w.grownBy w1 none)
    (h2 : w2.ownsRow w1.heap.size 31 2 (.slice (some ⟨w1.heap.size, 0, none⟩) n n) n ys) (g2 : w1.grownBy w2 none) :
    Arr w w2 w.heap.size w1.heap.size n 0 0 E := by
  obtain ⟨_, h1 | ⟨g, cap, cur, hv, hg, hh, _, _, hsz, _⟩⟩ := h1
  · simp at h1
  obtain ⟨_, h2 | ⟨g', cap', cur', hv', hg', hh', _, _, hsz', _⟩⟩ := h2
  · simp at h2
  simp only [Value.slice.injEq, Option.some.injEq, Addr.mk.injEq, and_true, true_and] at hv hv'
  obtain ⟨rfl, rfl⟩ := hv
  obtain ⟨rfl, rfl⟩ := hv'
  have hlt := lt_of_block hh
  refine ⟨((Below.refl _ _).grown g1 (Nat.le_refl _) (by simp)).trans (((Below.refl _ _).grown g2 (Nat.le_refl _) (by simp)).mono (by omega)), ⟨cur, ?_, by omega, by omega⟩, ⟨cur', hh', hsz', by omega⟩, by omega, Nat.le_refl _, by omega⟩
  rw [g2.block _ hlt (by simp)]; exact hh

/-- All that stands behind the run: the two rows, and what the run gave. -/
structure Fin (W w : World) (be bt n bg : Nat) (E : Nat → Int) (t : Int × Int × Int) : Prop where
  a : Arr W w be bt n n n E
  g : w.heap[bg]? = some (.cells #[.int .i64 (hi t.1), .int .u64 (lo t.1), .int .i64 (hi t.2.1), .int .u64 (lo t.2.1), .int .i64 (hi t.2.2), .int .u64 (lo t.2.2)] 34 (0, 0))
theorem Fin.on {bg : Nat} {t : Int × Int × Int} (h : Fin W w be bt n bg E t) (hb : Below w.heap.size w w') : Fin W w' be bt n bg E t :=
  ⟨h.a.on hb, (hb.block _ (lt_of_block h.g)).trans h.g⟩
theorem Fin.drewN {bg : Nat} {t : Int × Int × Int} (h : Fin W w be bt n bg E t) (m : Nat) : Fin W (w.drewN m) be bt n bg E t :=
  h.on (below_drewN (Below.refl _ _) m)
theorem Fin.alloc {bg : Nat} {t : Int × Int × Int} (h : Fin W w be bt n bg E t) (o : Obj) : Fin W (w.alloc o) be bt n bg E t :=
  h.on ((Below.refl _ _).alloc (Nat.le_refl _) o)
theorem Fin.drew {bg : Nat} {t : Int × Int × Int} (h : Fin W w be bt n bg E t) : Fin W w.drew be bt n bg E t := h.on (Below.refl _ _).drew
theorem Fin.make (h : Arr W w be bt n n n E) (t : Int × Int × Int) : Fin W (w.alloc (.cells #[.int .i64 (hi t.1), .int .u64 (lo t.1), .int .i64 (hi t.2.1), .int .u64 (lo t.2.1), .int .i64 (hi t.2.2), .int .u64 (lo t.2.2)] 34)) be bt n w.heap.size E t := by
  refine ⟨h.alloc _, ?_⟩
  show (w.heap.push _)[w.heap.size]? = _
  exact Array.getElem?_push_size
theorem Fin.old {bg : Nat} {t : Int × Int × Int} (h : Fin W w be bt n bg E t) : Below W.heap.size W w := h.a.below
theorem Fin.cells {bg : Nat} {t : Int × Int × Int} (h : Fin W w be bt n bg E t) :
    w.cell? ⟨bg, 0, none⟩ = some (.int .i64 (hi t.1)) ∧ w.cell? ⟨bg, 1, none⟩ = some (.int .u64 (lo t.1)) ∧ w.cell? ⟨bg, 2, none⟩ = some (.int .i64 (hi t.2.1)) ∧
    w.cell? ⟨bg, 3, none⟩ = some (.int .u64 (lo t.2.1)) ∧ w.cell? ⟨bg, 4, none⟩ = some (.int .i64 (hi t.2.2)) ∧ w.cell? ⟨bg, 5, none⟩ = some (.int .u64 (lo t.2.2)) := by
  have hg := h.g
  refine ⟨?_, ?_, ?_, ?_, ?_, ?_⟩
  all_goals simp [World.cell?, hg]
end
end Go.Proofs.Ybulkbhaa
