import Derived.Test.YbulkbhcsDoorSt
namespace Go.Proofs.YbulkbhcsDoor
open Go.RowKit

def ints (p : List Nat) : List Int := p.map (fun v : Nat => (v : Int))
theorem ints_len (p : List Nat) : (ints p).length = p.length := by simp [ints]
theorem ints_get (p : List Nat) (i : Nat) : (ints p).getD i 0 = ((p.getD i 0 : Nat) : Int) := by
  unfold ints
  rw [List.getD_eq_getElem?_getD, List.getD_eq_getElem?_getD, List.getElem?_map]
  cases p[i]? <;> rfl
/-- The orders that are visited. -/
def vis (R : List (Option (List Nat))) : List (List Int) := R.filterMap (fun o => o.map ints)
theorem vis_app (A B : List (Option (List Nat))) : vis (A ++ B) = vis A ++ vis B := by simp [vis]
def ext (g : List (List Nat)) (n : Nat) : List (List Int) := vis (T g n [])

theorem flat_le {f : Nat → List (Option (List Nat))} {K : Nat} (hf : ∀ v, (f v).length ≤ K) : ∀ l : List Nat, (l.flatMap f).length ≤ l.length * K
  | [] => by simp
  | x :: l => by
    have := flat_le hf l
    have := hf x
    rw [List.flatMap_cons, List.length_append, List.length_cons, Nat.succ_mul]
    omega
theorem T_len {g : List (List Nat)} (h6 : g.length ≤ 6) : ∀ (m : Nat) (p : List Nat), (T g m p).length + 1 ≤ 2 * 8 ^ m
  | 0, p => by simp [T]
  | m + 1, p => by
    have ih := fun v : Nat => T_len h6 m (p ++ [v])
    have hfl : (frees g p).length ≤ 6 := by
      have := List.length_filter_le (freeB g p) (List.range g.length)
      unfold frees
      rw [List.length_range] at this
      omega
    have h1 := flat_le (f := fun v => none :: T g m (p ++ [v])) (K := 2 * 8 ^ m) (fun v => by have := ih v; simp; omega) (frees g p)
    have h2 : (frees g p).length * (2 * 8 ^ m) ≤ 6 * (2 * 8 ^ m) := Nat.mul_le_mul_right _ hfl
    have h3 : 1 ≤ 8 ^ m := Nat.one_le_pow _ _ (by omega)
    simp only [T, List.length_append, List.length_singleton]
    rw [Nat.pow_succ]
    omega

theorem nxt_word : ∀ F : Nat, F < 64 → ∀ t : Nat, t < 7 → (nxt F t = -1 ∧ ∀ u : Nat, u < 6 → t ≤ u → F.testBit u = false) ∨
    (∃ v : Nat, v < 6 ∧ (nxt F t = (v : Int) ∧ t ≤ v ∧ F.testBit v = true ∧ ∀ u : Nat, u < v → t ≤ u → F.testBit u = false)) := by decide +kernel

/-- The walk between two rounds: p has been placed, the nodes below t have been tried behind it. -/
structure Lp (c : Cx) (xs : List (List Int)) (w : World) (p : List Nat) (t gh F : Nat) (zt zb : List Int) (tt : Nat) (pre : List (List Int)) : Prop where
  st : St c w p p p F p.length zt zb (tt : Int) pre
  isF : IsF F (Free c.g p)
  topo : Topo c.g p
  pp : Pre c.g p
  t6 : t ≤ 6
  trd : zt.getD p.length 0 = (t : Int) - 1
  trk : ∀ k, k < p.length → zt.getD k 0 = ((p.getD k 0 : Nat) : Int)
  bfm : ∀ k, k < p.length → zb.getD k 0 ≤ zb.getD (k + 1) 0
  bfd : zb.getD p.length 0 ≤ (pre.length : Int)
  bft : t ≠ 0 → zb.getD p.length 0 < (pre.length : Int)
  ghe : gh = (TT c.g t (c.n - p.length) p ++ after c.g p.reverse).length
  seq : pre ++ vis (TT c.g t (c.n - p.length) p ++ after c.g p.reverse) = xs
  b1 : pre.length + gh ≤ 600000
  b2 : tt + gh ≤ 600000
section
variable {c : Cx} {xs : List (List Int)} {w w' : World} {p : List Nat} {t gh F : Nat} {zt zb : List Int} {tt : Nat} {pre : List (List Int)}
theorem getD_set (l : List Int) (i j : Nat) (x : Int) (hi : i < l.length) : (l.set i x).getD j 0 = if i = j then x else l.getD j 0 := by
  by_cases e : i = j
  · subst e
    rw [if_pos rfl, List.getD_eq_getElem?_getD, List.getElem?_set_self hi]; rfl
  · rw [if_neg e, List.getD_eq_getElem?_getD, List.getD_eq_getElem?_getD, List.getElem?_set_ne e]
theorem Lp.len (h : Lp c xs w p t gh F zt zb tt pre) (f : Fit c) : p.length ≤ c.n := by have := h.pp.len; rw [f.gn] at this; exact this
theorem Lp.place (h : Lp c xs w p t gh F zt zb tt pre) (f : Fit c) (hp : p.length < c.n) {v : Nat} (hv : Free c.g p v) (htv : t ≤ v) (hl : ∀ u, t ≤ u → u < v → ¬ Free c.g p u) {F' : Nat}
    (st : St c w' (p ++ [v]) (p ++ [v]) (p ++ [v]) F' (p.length + 1) ((zt.set p.length (v : Int)).set (p.length + 1) (-1)) (zb.set (p.length + 1) (pre.length : Int)) ((tt : Int) + 1) pre) (hF : IsF F' (Free c.g (p ++ [v]))) :
    gh - 1 < gh ∧ Lp c xs w' (p ++ [v]) 0 (gh - 1) F' ((zt.set p.length (v : Int)).set (p.length + 1) (-1)) (zb.set (p.length + 1) (pre.length : Int)) (tt + 1) pre := by
  have hz := h.st.trl
  have hb := h.st.bfl
  have gn := f.gn
  have hpl := TT_place (g := c.g) (p := p) (t := t) (v := v) (by rw [gn]; exact hp) hv htv hl
  rw [gn] at hpl
  have hg := h.ghe
  have hs := h.seq
  rw [hpl] at hg hs
  have e : (p ++ [v]).length = p.length + 1 := by simp
  rw [List.length_cons] at hg
  have g0 : gh - 1 = (TT c.g 0 (c.n - (p ++ [v]).length) (p ++ [v]) ++ after c.g (p ++ [v]).reverse).length := by omega
  have k1 := h.b1
  have k2 := h.b2
  refine ⟨by omega, ⟨?_, hF, h.topo.snoc hv, h.pp.place hv, by omega, ?_, ?_, ?_, ?_, fun q => absurd rfl q, g0, ?_, by omega, by omega⟩⟩
  · rw [e]
    have : ((tt + 1 : Nat) : Int) = (tt : Int) + 1 := by omega
    rw [this]
    exact st
  · rw [e, getD_set _ _ _ _ (by simp; omega)]; simp
  · intro k hk
    rw [e] at hk
    rw [getD_set _ _ _ _ (by simp; omega), if_neg (by omega), getD_set _ _ _ _ (by omega)]
    by_cases q : p.length = k
    · subst q
      rw [if_pos rfl]
      simp [List.getD_eq_getElem?_getD]
    · rw [if_neg q, h.trk k (by omega)]
      simp only [List.getD_eq_getElem?_getD]
      rw [List.getElem?_append_left (by omega)]
  · intro k hk
    rw [e] at hk
    rw [getD_set _ _ _ _ (by omega), getD_set _ _ _ _ (by omega), if_neg (by omega)]
    by_cases q : p.length = k
    · subst q
      rw [if_pos rfl]
      exact h.bfd
    · rw [if_neg (by omega)]
      exact h.bfm k (by omega)
  · rw [e, getD_set _ _ _ _ (by omega)]; simp
  · exact hs
theorem Lp.back {v : Nat} (h : Lp c xs w (p ++ [v]) t gh F zt zb tt pre) (f : Fit c) {pre' : List (List Int)} {F' : Nat} (hseq : pre' ++ vis (after c.g (p ++ [v]).reverse) = xs) (hgh : gh = (after c.g (p ++ [v]).reverse).length + 1)
    (hlt : zb.getD (p.length + 1) 0 < (pre'.length : Int)) (hle : pre'.length ≤ pre.length + 1) (st : St c w' p p p F' p.length zt zb (tt : Int) pre') (hF : IsF F' (Free c.g p)) :
    gh - 1 < gh ∧ Lp c xs w' p (v + 1) (gh - 1) F' zt zb tt pre' := by
  have gn := f.gn
  have hv : Free c.g p v := h.topo p v [] (by simp)
  have ht : Topo c.g p := fun a x b e => h.topo a x (b ++ [v]) (by rw [e]; simp)
  have hP : Pre c.g p := by
    refine ⟨?_, fun x hx => h.pp.lt x (by simp [hx]), fun x hx => ?_⟩
    · exact (List.nodup_append.1 h.pp.nodup).1
    · rw [rest_zero]
      intro u hu hup hxu
      by_cases e : u = v
      · subst e
        -- an edge out of the node u into x, which stands ahead of it
        obtain ⟨a, b, hab⟩ := List.append_of_mem hx
        have hx0 := ht a x b hab
        exact rest_zero.1 hx0.2.2 u hu (fun hua => hup (by rw [hab]; simp [hua])) hxu
      · exact rest_zero.1 (h.pp.done x (by simp [hx])) u hu (by simp [hup, e]) hxu
  have e : (p ++ [v]).length = p.length + 1 := by simp
  have hvn : v < 6 := by have := hv.1; have := f.ok.n6; omega
  have hm : zb.getD p.length 0 ≤ zb.getD (p.length + 1) 0 := h.bfm p.length (by omega)
  have hsn := after_snoc (g := c.g) (p := p) (v := v)
  rw [gn] at hsn
  have k1 := h.b1
  have k2 := h.b2
  refine ⟨by omega, ⟨st, hF, ht, hP, by omega, ?_, ?_, ?_, by omega, fun _ => by omega, ?_, ?_, by omega, by omega⟩⟩
  · have := h.trk p.length (by omega)
    rw [this]
    simp [List.getD_eq_getElem?_getD]
  · intro k hk
    rw [h.trk k (by omega)]
    simp only [List.getD_eq_getElem?_getD]
    rw [List.getElem?_append_left (by omega)]
  · intro k hk; exact h.bfm k (by omega)
  · rw [← hsn]; omega
  · rw [← hsn]; exact hseq
theorem Lp.full (h : Lp c xs w p t gh F zt zb tt pre) (f : Fit c) (hp : p.length = c.n) : gh = (after c.g p.reverse).length + 1 ∧ (pre ++ [ints p]) ++ vis (after c.g p.reverse) = xs := by
  have hg := h.ghe
  have hs := h.seq
  have ht := TT_full (g := c.g) (p := p) (t := t) (by rw [f.gn]; exact hp)
  rw [f.gn] at ht
  rw [ht] at hg hs
  refine ⟨by rw [hg]; simp, ?_⟩
  rw [← hs, vis_app]
  simp [vis]
theorem Lp.stuck (h : Lp c xs w p t gh F zt zb tt pre) (f : Fit c) (hp : p.length < c.n) (hl : ∀ u, t ≤ u → ¬ Free c.g p u) : gh = (after c.g p.reverse).length + 1 ∧ pre ++ vis (after c.g p.reverse) = xs ∧ zb.getD p.length 0 < (pre.length : Int) := by
  have hg := h.ghe
  have hs := h.seq
  have ht := TT_back (g := c.g) (p := p) (t := t) (by rw [f.gn]; exact hp) hl
  rw [f.gn] at ht
  rw [ht] at hg hs
  refine ⟨by rw [hg]; simp, ?_, ?_⟩
  · rw [← hs, vis_app]
    simp [vis]
  · have hfull := f.full
    rw [← f.gn] at hfull hp
    obtain ⟨x, hx⟩ := goes_on hfull hp
    refine h.bft (fun e => ?_)
    subst e
    exact hl x (by omega) hx
end
end Go.Proofs.YbulkbhcsDoor
