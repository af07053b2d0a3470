import Derived.Test.YbulkbhceStr
import Derived.Deep.AppendSrc
import Derived.OwnWalk
namespace Go.Proofs.Ybulkbhce
open Go.RowKit

/-- The cells of bytes. -/
def bcells (L : List Int) : List Value := L.map (Value.int .u8)
theorem bcells_length (L : List Int) : (bcells L).length = L.length := by simp [bcells]
theorem bcells_one (L : List Int) : ∀ v ∈ bcells L, v.oneCell' = true := by
  intro v hv
  obtain ⟨_, _, rfl⟩ := List.mem_map.1 hv
  rfl
theorem bcells_get {L : List Int} {j : Nat} {v : Value} (h : (bcells L)[j]? = some v) : ∃ n, L[j]? = some n ∧ v = .int .u8 n := by
  rw [bcells, List.getElem?_map] at h
  cases hq : L[j]? with
  | none => simp [hq] at h
  | some n => exact ⟨n, rfl, by simpa [hq] using h.symm⟩

/-- Block b is a row of 'cap' bytes of the call's own, the first of them L. -/
def Buf (w : World) (b cap : Nat) (L : List Int) : Prop :=
  ∃ cs : Array Value, w.heap[b]? = some (.cells cs 5 (0, 0)) ∧ cs.size = cap ∧ L.length ≤ cap ∧ ∀ (i : Nat) (n : Int), L[i]? = some n → cs[i]? = some (Value.int .u8 n)
section
variable {w w' : World} {b cap : Nat} {L : List Int}
theorem Buf.lt (h : Buf w b cap L) : b < w.heap.size := by obtain ⟨cs, h1, _⟩ := h; exact lt_of_block h1
theorem Buf.of_block (h : Buf w b cap L) (hb : w'.heap[b]? = w.heap[b]?) : Buf w' b cap L := by
  obtain ⟨cs, h1, h2⟩ := h
  exact ⟨cs, hb.trans h1, h2⟩
theorem Buf.cell (h : Buf w b cap L) {i : Nat} {n : Int} (hi : L[i]? = some n) : w.cell? ⟨b, i, none⟩ = some (.int .u8 n) := by
  obtain ⟨cs, h1, h2, h3, h4⟩ := h
  simp [World.cell?, h1, h4 i n hi]
theorem Buf.any (h : Buf w b cap L) {i : Nat} (hi : i < cap) : (w.cell? ⟨b, i, none⟩).isSome = true := by
  obtain ⟨cs, h1, h2, h3, h4⟩ := h
  simp [World.cell?, h1, h2, hi]
theorem Buf.free (h : Buf w b cap L) (i : Nat) : w.frozen? ⟨b, i, none⟩ = false := by
  obtain ⟨cs, h1, _⟩ := h
  simp [World.frozen?, h1]
theorem heap_set {c : Array Value} {t : TypeId} {o : Nat} {fr : Nat × Nat} (h : w.heap[b]? = some (.cells c t fr)) (u : Value) :
    (w.setCell ⟨b, o, none⟩ u).heap[b]? = some (.cells (c.setIfInBounds o u) t fr) := by
  have hlt := lt_of_block h
  have h' : w.heap[b] = .cells c t fr := by simpa [Array.getElem?_eq_getElem hlt] using h
  show (w.heap.modify b _)[b]? = _
  rw [Array.getElem?_eq_getElem (by simpa using hlt), Array.getElem_modify_self, h']
  rfl
end
theorem Buf.push {b cap : Nat} : ∀ (M L : List Int) {w : World}, Buf w b cap L → L.length + M.length ≤ cap → Buf (w.setCells b L.length (bcells M)) b cap (L ++ M)
  | [], L, w, h, _ => by simpa [bcells, World.setCells] using h
  | n :: M, L, w, h, hr => by
    simp only [List.length_cons] at hr
    have h1 : Buf (w.setCell ⟨b, L.length, none⟩ (.int .u8 n)) b cap (L ++ [n]) := by
      obtain ⟨cs, h1, h2, h3, h4⟩ := h
      refine ⟨_, heap_set h1 _, by simpa using h2, by simp; omega, fun i k hi => ?_⟩
      by_cases e : i = L.length
      · subst e
        rw [Array.getElem?_setIfInBounds_self_of_lt (by omega)]
        simp at hi
        rw [hi]
      · rw [Array.getElem?_setIfInBounds_ne (by omega)]
        have hlt : i < L.length := by
          have := (List.getElem?_eq_some_iff.1 hi).1
          simp at this; omega
        exact h4 i k (by rw [← hi, List.getElem?_append_left hlt])
    have h2 := Buf.push M (L ++ [n]) h1 (by simp; omega)
    have e : w.setCells b L.length (bcells (n :: M)) = (w.setCell ⟨b, L.length, none⟩ (.int .u8 n)).setCells b (L.length + 1) (bcells M) := rfl
    rw [e]
    simpa using h2
theorem heap_setCells_other {b k : Nat} (hne : k ≠ b) : ∀ (cs : List Value) (o : Nat) (w : World), (w.setCells b o cs).heap[k]? = w.heap[k]?
  | [], _, _ => rfl
  | c :: cs, o, w => by
    rw [World.setCells, heap_setCells_other hne cs (o + 1)]
    exact Below.heap_setCell _ _ _ _ hne

theorem info5' : (Yba.prog.info? 5).map (fun i => (i.zero, i.size, i.bytes)) = some (some (.int .u8 0), 1, 1) := by kernel_rfl

/-- 'b = append(b, ..)' where there is room. -/
theorem wpList_app {ops : Array Oper} {rest : List Oper} {o : Oper} {a : Act} {w : World} {Q : Exit → Act → World → Prop} (hg : o.guard = none) (s x : Operand) (tx : TypeId)
    (ho : o.op = .call { callee := .builtin .append, args := #[s, x], argTypes := #[22, tx] }) (b n cap : Nat) (hs : a.eval s = .slice (some ⟨b, 0, none⟩) n cap) (xv : Value) (hx : a.eval x = xv)
    (L M : List Int) (m : Nat) (hL : L.length = n) (hM : M.length = m) (hbuf : Buf w b cap L) (hsrc : Src Yba.prog 1 tx xv M.length (bcells M) w) (hroom : n + m ≤ cap)
    (h : ∀ w', Buf w' b cap (L ++ M) → (∀ k, k ≠ b → w'.heap[k]? = w.heap[k]?) → w'.os = w.os ∧ w'.tape = w.tape ∧ w'.output = w.output → w'.heap.size = w.heap.size → wpList Yba.prog ops Q rest (a.put o.dst (.slice (some ⟨b, 0, none⟩) (n + m) cap)) w') :
    wpList Yba.prog ops Q (o :: rest) a w := by
  subst hM
  refine wpList_plain hg fun K hK => ?_
  obtain ⟨i, hi, hz, hsz, hby⟩ := info_parts info5'
  have hrun := run_append_room_src (P := Yba.prog) w 22 tx o.type 5 i Yba.underlying22 hi b 0 n cap xv M.length (bcells M) (by rw [hsz]; exact hsrc) hroom
    (fun j hj => by rw [hsz]; rw [bcells_length] at hj; exact hbuf.any (by omega)) (fun j hj => hbuf.free _)
  rw [hsz] at hrun
  simp only [Nat.zero_add, Nat.mul_one] at hrun
  unfold Oper.wp
  simp [execOp, ho, resolve, invoke, builtin, hs, hx, hrun, Result.andThen]
  refine hK _ _ (h _ ?_ (fun k hk => heap_setCells_other hk _ _ _) ?_ (size_setCells _ _ _ _))
  · rw [← hL]; exact hbuf.push M L (by omega)
  · have hb : Below 0 w (w.setCells b n (bcells M)) := below_setCells w (Nat.zero_le _) _ _
    exact ⟨hb.os, hb.tape, hb.output⟩
end Go.Proofs.Ybulkbhce
