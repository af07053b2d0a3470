import Derived.Test.YbulkbhaaRows
import Derived.WalkKit
import Derived.LoopTactic
namespace Go.Proofs.Ybulkbhaa
open Go.RowKit

/-- The shift of iteration k, for k up to 1024. -/
def hsh (k : Nat) : Nat := if k < 4 then k + 1 else if k < 14 then k else if k < 42 then k - 1 else if k < 124 then k - 2 else if k < 368 then k - 3 else k - 4

theorem hsh_pos (k : Nat) : 1 ≤ hsh k := by unfold hsh; (repeat' split) <;> omega
theorem hsh_le (k : Nat) (h : k ≤ 1024) : hsh k ≤ 1100 := by unfold hsh; (repeat' split) <;> omega

/-- Where the loop stands: j, r, and how much has been taken off. -/
def HAt (k : Nat) (m : Nat) (j r sh : Int) : Prop :=
  (m = 0 ∧ j = 0 ∧ r = 4 ∧ sh = k + 1) ∨ (m = 1 ∧ j = 1 ∧ r = 13 ∧ sh = k ∧ 4 ≤ k) ∨ (m = 2 ∧ j = 2 ∧ r = 40 ∧ sh = k - 1 ∧ 14 ≤ k) ∨
  (m = 3 ∧ j = 3 ∧ r = 121 ∧ sh = k - 2 ∧ 42 ≤ k) ∨ (m = 4 ∧ j = 4 ∧ r = 364 ∧ sh = k - 3 ∧ 124 ≤ k) ∨ (m = 5 ∧ j = 5 ∧ r = 1093 ∧ sh = k - 4 ∧ 368 ≤ k)

theorem HAt.step {k m : Nat} {j r sh : Int} (h : HAt k m j r sh) (hk : k ≤ 1024) (hlt : r + j ≤ k) : HAt k (m + 1) (j + 1) (3 * r + 1) (sh - 1) := by
  unfold HAt at *
  rcases h with h | h | h | h | h | h <;> first | (refine Or.inl ?_; omega) | (refine Or.inr (Or.inl ?_); omega) | (refine Or.inr (Or.inr (Or.inl ?_)); omega) | (refine Or.inr (Or.inr (Or.inr (Or.inl ?_))); omega) | (refine Or.inr (Or.inr (Or.inr (Or.inr (Or.inl ?_)))); omega) | (refine Or.inr (Or.inr (Or.inr (Or.inr (Or.inr ?_)))); omega)
theorem HAt.last {k m : Nat} {j r sh : Int} (h : HAt k m j r sh) (hk : k ≤ 1024) (hge : ¬ r + j ≤ k) : sh = hsh k := by
  unfold hsh; unfold HAt at h; (repeat' split) <;> omega
theorem HAt.bd {k m : Nat} {j r sh : Int} (h : HAt k m j r sh) : 0 ≤ j ∧ j ≤ 5 ∧ 0 ≤ r ∧ r ≤ 1093 ∧ m ≤ 5 ∧ sh ≤ k + 1 ∧ -5 ≤ sh := by
  unfold HAt at h; omega

theorem ret_int {k : IntKind} {a b : Int} (h : a = b) : Ending.returned (.int k a) = .returned (.int k b) := by rw [h]

theorem shift_any (k : Nat) (w : World) (hk : k ≤ 1024) :
    Calls Yba.prog 16 #[.int .i64 k] w fun e w' => e = .returned (.int .i64 (hsh k)) ∧ w' = w := by
  go_enter Yba.func16, Yba.ntmps16
  go_wp2
  go_loop [3, 4, 5] (fun sv jv rv => ∃ (m : Nat) (j r sh : Int), HAt k m j r sh ∧ sv = .int .i64 sh ∧ jv = .int .i64 j ∧ rv = .int .i64 r) (fun _ jv _ => 6 - (intOf jv).toNat)
  case atStart => exact ⟨0, 0, 4, k + 1, Or.inl ⟨rfl, rfl, rfl, rfl⟩, rfl, rfl, rfl⟩
  case round =>
    obtain ⟨m, j, r, sh, hat, rfl, rfl, rfl⟩ := hrel
    obtain ⟨b1, b2, b3, b4, b5, b6, b7⟩ := hat.bd
    by_cases hlt : r + j ≤ k
    · have hst := hat.step hk hlt
      have HS : Hid (HAt k (m + 1) (j + 1) (3 * r + 1) (sh - 1)) := hst
      clear hst hat
      go_wp2
      go_round
      case rel => exact ⟨m + 1, j + 1, 3 * r + 1, sh - 1, HS.out, rfl, rfl, rfl⟩
      case measure => have := HS.out.bd; simp [intOf]; omega
    · have hl := hat.last hk hlt
      have HL : Hid (sh = hsh k) := hl
      clear hl hat
      go_wp2
      go_ret
      exact ⟨ret_int HL.out, rfl⟩

/-! ### The law's own sequence: before round k the three variables are so -/
def SAt (k : Nat) (s r : Int) (rep : Bool) : Prop :=
  (k ≤ 3 ∧ s = k + 1 ∧ r = 4 ∧ rep = false) ∨ (k = 4 ∧ s = 4 ∧ r = 4 ∧ rep = true) ∨
  (5 ≤ k ∧ k ≤ 13 ∧ s = k ∧ r = 13 ∧ rep = false) ∨ (k = 14 ∧ s = 13 ∧ r = 13 ∧ rep = true) ∨
  (15 ≤ k ∧ k ≤ 41 ∧ s = k - 1 ∧ r = 40 ∧ rep = false) ∨ (k = 42 ∧ s = 40 ∧ r = 40 ∧ rep = true) ∨
  (43 ≤ k ∧ k ≤ 123 ∧ s = k - 2 ∧ r = 121 ∧ rep = false) ∨ (k = 124 ∧ s = 121 ∧ r = 121 ∧ rep = true) ∨
  (125 ≤ k ∧ k ≤ 367 ∧ s = k - 3 ∧ r = 364 ∧ rep = false) ∨ (k = 368 ∧ s = 364 ∧ r = 364 ∧ rep = true) ∨
  (369 ≤ k ∧ k ≤ 1024 ∧ s = k - 4 ∧ r = 1093 ∧ rep = false)

theorem SAt.start : SAt 0 1 4 false := Or.inl ⟨by omega, rfl, rfl, rfl⟩
theorem SAt.shift {k : Nat} {s r : Int} {rep : Bool} (h : SAt k s r rep) : s = hsh k := by
  unfold hsh; unfold SAt at h; (repeat' split) <;> omega
theorem SAt.bd {k : Nat} {s r : Int} {rep : Bool} (h : SAt k s r rep) : 1 ≤ s ∧ s ≤ 1025 ∧ 4 ≤ r ∧ r ≤ 1093 := by
  unfold SAt at h; omega
/-- 's == r && !rep' -/
theorem SAt.twice {k : Nat} {s r : Int} (h : SAt k s r false) (hk : k < 1024) (e : s = r) : SAt (k + 1) s r true := by
  unfold SAt at *
  rcases h with h | h | h | h | h | h | h | h | h | h | h <;> first | (exfalso; simp at h; done) | (exfalso; simp at h; omega) | (refine Or.inl ?_; simp; omega) | (refine Or.inr (Or.inl ?_); simp; omega) | (refine Or.inr (Or.inr (Or.inl ?_)); simp; omega) | (refine Or.inr (Or.inr (Or.inr (Or.inl ?_))); simp; omega) | (refine Or.inr (Or.inr (Or.inr (Or.inr (Or.inl ?_)))); simp; omega) | (refine Or.inr (Or.inr (Or.inr (Or.inr (Or.inr (Or.inl ?_))))); simp; omega) | (refine Or.inr (Or.inr (Or.inr (Or.inr (Or.inr (Or.inr (Or.inl ?_)))))); simp; omega) | (refine Or.inr (Or.inr (Or.inr (Or.inr (Or.inr (Or.inr (Or.inr (Or.inl ?_))))))); simp; omega) | (refine Or.inr (Or.inr (Or.inr (Or.inr (Or.inr (Or.inr (Or.inr (Or.inr (Or.inl ?_)))))))); simp; omega) | (refine Or.inr (Or.inr (Or.inr (Or.inr (Or.inr (Or.inr (Or.inr (Or.inr (Or.inr (Or.inl ?_))))))))); simp; omega) | (refine Or.inr (Or.inr (Or.inr (Or.inr (Or.inr (Or.inr (Or.inr (Or.inr (Or.inr (Or.inr ?_))))))))); simp; omega)
/-- 's == r' the second time -/
theorem SAt.on {k : Nat} {s r : Int} (h : SAt k s r true) : SAt (k + 1) (s + 1) (3 * r + 1) false := by
  unfold SAt at *
  rcases h with h | h | h | h | h | h | h | h | h | h | h <;> first | (exfalso; simp at h; done) | (exfalso; simp at h; omega) | (refine Or.inl ?_; simp; omega) | (refine Or.inr (Or.inl ?_); simp; omega) | (refine Or.inr (Or.inr (Or.inl ?_)); simp; omega) | (refine Or.inr (Or.inr (Or.inr (Or.inl ?_))); simp; omega) | (refine Or.inr (Or.inr (Or.inr (Or.inr (Or.inl ?_)))); simp; omega) | (refine Or.inr (Or.inr (Or.inr (Or.inr (Or.inr (Or.inl ?_))))); simp; omega) | (refine Or.inr (Or.inr (Or.inr (Or.inr (Or.inr (Or.inr (Or.inl ?_)))))); simp; omega) | (refine Or.inr (Or.inr (Or.inr (Or.inr (Or.inr (Or.inr (Or.inr (Or.inl ?_))))))); simp; omega) | (refine Or.inr (Or.inr (Or.inr (Or.inr (Or.inr (Or.inr (Or.inr (Or.inr (Or.inl ?_)))))))); simp; omega) | (refine Or.inr (Or.inr (Or.inr (Or.inr (Or.inr (Or.inr (Or.inr (Or.inr (Or.inr (Or.inl ?_))))))))); simp; omega) | (refine Or.inr (Or.inr (Or.inr (Or.inr (Or.inr (Or.inr (Or.inr (Or.inr (Or.inr (Or.inr ?_))))))))); simp; omega)
theorem SAt.rep {k : Nat} {s r : Int} (h : SAt k s r true) : s = r := by
  unfold SAt at *; simp at *; omega
theorem SAt.up {k : Nat} {s r : Int} (h : SAt k s r false) (hk : k < 1024) (e : ¬ s = r) : SAt (k + 1) (s + 1) r false := by
  unfold SAt at *
  rcases h with h | h | h | h | h | h | h | h | h | h | h <;> first | (exfalso; simp at h; done) | (exfalso; simp at h; omega) | (refine Or.inl ?_; simp; omega) | (refine Or.inr (Or.inl ?_); simp; omega) | (refine Or.inr (Or.inr (Or.inl ?_)); simp; omega) | (refine Or.inr (Or.inr (Or.inr (Or.inl ?_))); simp; omega) | (refine Or.inr (Or.inr (Or.inr (Or.inr (Or.inl ?_)))); simp; omega) | (refine Or.inr (Or.inr (Or.inr (Or.inr (Or.inr (Or.inl ?_))))); simp; omega) | (refine Or.inr (Or.inr (Or.inr (Or.inr (Or.inr (Or.inr (Or.inl ?_)))))); simp; omega) | (refine Or.inr (Or.inr (Or.inr (Or.inr (Or.inr (Or.inr (Or.inr (Or.inl ?_))))))); simp; omega) | (refine Or.inr (Or.inr (Or.inr (Or.inr (Or.inr (Or.inr (Or.inr (Or.inr (Or.inl ?_)))))))); simp; omega) | (refine Or.inr (Or.inr (Or.inr (Or.inr (Or.inr (Or.inr (Or.inr (Or.inr (Or.inr (Or.inl ?_))))))))); simp; omega) | (refine Or.inr (Or.inr (Or.inr (Or.inr (Or.inr (Or.inr (Or.inr (Or.inr (Or.inr (Or.inr ?_))))))))); simp; omega)
end Go.Proofs.Ybulkbhaa
