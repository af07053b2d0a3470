import Derived.Test.YbulkbhcsDoorPermDef
namespace Go.Proofs.YbulkbhcsDoor
/-- q holds every node once. -/
structure Full (n : Nat) (q : List Nat) : Prop where
  nodup : q.Nodup
  lt : ∀ x ∈ q, x < n
  len : q.length = n
theorem CH_full {n : Nat} (h1 : 1 ≤ n) (h6 : n ≤ 6) {q : List Nat} (hq : q ∈ CH n) : Full n q := by
  have h := chk_all n (by omega) h1
  unfold chk at h
  simp only [Bool.and_eq_true, List.all_eq_true] at h
  have := h.2 q hq
  simp only [decide_eq_true_eq, beq_iff_eq] at this
  exact ⟨this.2, fun x hx => this.1.2 x hx, this.1.1⟩
end Go.Proofs.YbulkbhcsDoor
