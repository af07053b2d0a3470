import Derived.Test.YbulkbhcsDoorSer
import Derived.RangeFuncCalls
import Derived.StillTail
import Derived.StillTactics
import Derived.OrdersIn
namespace Go.Proofs.YbulkbhcsDoor
open Go.RowKit

/-- The operation is no 'defer'. -/
def notDefer (o : Oper) : Bool := match o.op with
  | .defer _ => false
  | _ => true
theorem notDefer_spec {o : Oper} (h : notDefer o = true) : ∀ c, o.op ≠ .defer c := by
  intro c e
  unfold notDefer at h
  rw [e] at h
  cases h
theorem wp_in_round {P : Program} {o : Oper} {a : Act} {w : World} {K : Act → World → Prop} {Q : Exit → Act → World → Prop} (l n : Nat) (hd : notDefer o = true) (h : o.wp P a w K Q) : o.wpIn (Fence.wide.inRound l) n P a w K Q := by
  refine ⟨fun _ _ => trivial, ?_⟩
  unfold Oper.wp at h
  rw [Fence.inRound_round, Oper.semAt_some _ _ _ (notDefer_spec hd)]
  generalize (execOp a.eval o).run P w = r at *
  cases r with
  | ok x w' =>
    cases x with
    | value v => exact h
    | skip => exact h
    | defer d => exact h
    | enter f args => exact ⟨fun h0 => (by cases h0), CallsIn.inRound l (callsIn_wide.2 h)⟩
    | row row args => exact ⟨fun h0 => (by cases h0), fun c cs _ => let ⟨v, w', q, s⟩ := h c cs; ⟨v, w', q, stepsIn_wide.2 s⟩⟩
    | round l f tmps assign body => exact h.elim
    | _ => exact h
  | halt x w' => cases x <;> exact h
theorem any_round {P : Program} {md : Region.Mode} {ops : Array Oper} {Q : Exit → Act → World → Prop} (l n : Nat) (hd : ops.all notDefer = true) (hno : ¬ LetsOut Q) : ∀ (fuel : Nat) (listed : Array Bool) (a : Act) (w : World),
    wpAny P md ops Q fuel listed a w → wpAnyIn (Fence.wide.inRound l) n P md ops Q fuel listed a w
  | 0, _, _, _, h => h
  | fuel + 1, listed, a, w, h => by
    refine ⟨h.1, fun i hi => ?_⟩
    have h2 := wpOp_mono (fun a' w' h' => any_round l n hd hno fuel _ a' w' h') (h.2 i hi)
    unfold wpOp at h2
    unfold wpOpIn
    cases ho : ops[i]? with
    | none => simp only [ho] at h2 ⊢; exact h2
    | some o =>
      simp only [ho] at h2 ⊢
      split
      · rename_i hw
        simp only [hw, if_true] at h2
        rcases h2 with h2 | ⟨_, h2⟩
        · exact wp_in_round l n (Array.all_eq_true_iff_forall_mem.1 hd o (Array.mem_of_getElem? ho)) h2
        · exact absurd h2 hno
      · rename_i hw
        simp only [hw] at h2
        exact ⟨fun _ _ => trivial, h2⟩
/-- A region that draws its order, in a round: k operations only read, the others come one after the other. -/
theorem region_round {P : Program} {id : Nat} {Q : Exit → Act → World → Prop} {a : Act} {w : World} {l : List Oper} (n : Nat) {lr m : Nat} (hm : P.follows .mixedOrders = true) (hB : Region.lexTailB .any l.toArray n = true) (hd : l.toArray.all notDefer = true) (hno : ¬ LetsOut Q)
    (h : wpStill P l.toArray w.drew (fun a' => wpList P l.toArray Q (l.drop n) a' w.drew) (l.take n) a) : (Code.region id l.toArray true).wpIn (Fence.wide.inRound lr) m P Q a w := by
  simp only [Region.lexTailB, Bool.and_eq_true, decide_eq_true_eq] at hB
  obtain ⟨⟨⟨⟨hsel, hn⟩, hs⟩, hc⟩, hlex⟩ := hB
  have hn' : n < l.length := by simpa using hn
  have htl : (l.take n).length = n := by simp; omega
  have hdl : (l.drop n).length = l.toArray.size - n := by simp
  have inv0 : HeadInv .any l.toArray n (Array.replicate l.toArray.size false) :=
    ⟨by simp, fun j oj _ hl => (by rw [getD_replicate_false] at hl; cases hl), fun t _ ht => getD_in (by simpa using ht) (getD_replicate_false _ _)⟩
  have H := wpAnyL_lex (md := .any) (g := l.toArray.size - n) hsel hs hc hn (l.take n) 0 _ a (fun j hj => by
    have hj' : j < n := by rw [htl] at hj; exact hj
    simp [hj']) (by simpa using htl) inv0 (by rw [htl]; exact hlex) h
  refine wpIn_region_any hm (any_round lr m hd hno _ _ _ _ ?_)
  have := wpAny_of_head (Q' := Q) (g := l.toArray.size - n) (fun listed a' hL => by
    have := wpAny_of_seq (md := .any) (Q' := Q) (l.drop n) n listed a' w.drew (fun j => by simp [List.getElem?_drop]) (by rw [hdl]; exact hL.1) hL.2
    rwa [hdl] at this) _ _ _ H
  rw [htl, show n + (l.toArray.size - n) = l.toArray.size by omega] at this
  exact this
end Go.Proofs.YbulkbhcsDoor
