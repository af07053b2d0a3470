import Derived.Test.YbulkbhaaAddSub
namespace Go.Proofs.Ybulkbhaa
open Go.RowKit

/-! ### addTimes -/
theorem times_one (a b : Int) (w : World) (ha : (Lit.int .i64 a).wf = true) (hb : (Lit.int .i64 b).wf = true) :
    Calls Yba.prog 7 #[.int .i64 a, .int .i64 1, .int .i64 b] w fun e w' => e = .returned (.tuple #[.int .i64 (wrap64 (a + b)), .bool (fits (a + b))]) ∧ w' = w := by
  go_enter Yba.func7, Yba.ntmps7
  go_wp2_with (go_at_call 14; refine (add_any a b _ ha hb).mono ?_; rintro e w' ⟨rfl, rfl⟩)
  go_ret2
  exact ⟨rfl, rfl⟩

theorem times_neg (a b : Int) (w : World) (ha : (Lit.int .i64 a).wf = true) (hb : (Lit.int .i64 b).wf = true) :
    Calls Yba.prog 7 #[.int .i64 a, .int .i64 (-1), .int .i64 b] w fun e w' => e = .returned (.tuple #[.int .i64 (wrap64 (a - b)), .bool (fits (a - b))]) ∧ w' = w := by
  go_enter Yba.func7, Yba.ntmps7
  go_wp2_with (go_at_call 15; refine (sub_any a b _ ha hb).mono ?_; rintro e w' ⟨rfl, rfl⟩)
  go_ret2
  exact ⟨rfl, rfl⟩

theorem times_else (a c b : Int) (w : World) (h1 : (c == 1) = false) (h2 : (c == -1) = false) :
    Calls Yba.prog 7 #[.int .i64 a, .int .i64 c, .int .i64 b] w fun e w' => e = .returned (.tuple #[.int .i64 a, .bool true]) ∧ w' = w := by
  go_enter Yba.func7, Yba.ntmps7
  go_wp2_with fail
  go_ret2
  exact ⟨rfl, rfl⟩

/-! ### the model -/
theorem ret2' {a a' : Int} {b c : Bool} (h' : a = a') (h : b = c) : Ending.returned (.tuple #[.int .i64 a, .bool b]) = .returned (.tuple #[.int .i64 a', .bool c]) := by rw [h, h']
theorem fits_no {n : Int} (h : n < -9223372036854775808 ∨ 9223372036854775807 < n) : false = fits n := by simp [fits]; omega
theorem fits_yes {n : Int} (h : -9223372036854775808 ≤ n ∧ n ≤ 9223372036854775807) : true = fits n := by simp [fits]; omega
theorem wrap_eq {n m : Int} (h : n = m) : wrap64 n = wrap64 m := by rw [h]
theorem wrap_in {n : Int} (h : -9223372036854775808 ≤ n ∧ n ≤ 9223372036854775807) : n = wrap64 n := by unfold wrap64; omega

theorem model_one (a b : Int) (w : World) (ha : (Lit.int .i64 a).wf = true) (hb : (Lit.int .i64 b).wf = true) :
    Calls Yba.prog 8 #[.int .i64 a, .int .i64 1, .int .i64 b] w fun e w' => e = .returned (.tuple #[.int .i64 (wrap64 (a + b)), .bool (fits (a + b))]) ∧ w' = w := by
  obtain ⟨a1, a2⟩ := i64_bounds a ha
  obtain ⟨b1, b2⟩ := i64_bounds b hb
  go_enter Yba.func8, Yba.ntmps8
  go_wp2
  all_goals go_ret2
  all_goals refine ⟨ret2' ?_ ?_, rfl⟩
  all_goals first | exact wrap_in (by omega) | exact wrap_eq rfl | exact fits_no (by omega) | exact fits_yes (by omega)

theorem model_neg (a b : Int) (w : World) (ha : (Lit.int .i64 a).wf = true) (hb : (Lit.int .i64 b).wf = true) :
    Calls Yba.prog 8 #[.int .i64 a, .int .i64 (-1), .int .i64 b] w fun e w' => e = .returned (.tuple #[.int .i64 (wrap64 (a - b)), .bool (fits (a - b))]) ∧ w' = w := by
  obtain ⟨a1, a2⟩ := i64_bounds a ha
  obtain ⟨b1, b2⟩ := i64_bounds b hb
  go_enter Yba.func8, Yba.ntmps8
  go_wp2
  all_goals go_ret2
  all_goals refine ⟨ret2' ?_ ?_, rfl⟩
  all_goals first | exact wrap_in (by omega) | exact wrap_eq rfl | exact fits_no (by omega) | exact fits_yes (by omega)

theorem model_else (a c b : Int) (w : World) (h1 : (c == 1) = false) (h2 : (c == -1) = false) :
    Calls Yba.prog 8 #[.int .i64 a, .int .i64 c, .int .i64 b] w fun e w' => e = .returned (.tuple #[.int .i64 a, .bool true]) ∧ w' = w := by
  go_enter Yba.func8, Yba.ntmps8
  go_wp2_with fail
  go_ret2
  exact ⟨rfl, rfl⟩

/-! ### the two, met at every c -/
/-- What both come to. -/
def tv (a c b : Int) : Int := if c = 1 then wrap64 (a + b) else if c = -1 then wrap64 (a - b) else a
def tb (a c b : Int) : Bool := if c = 1 then fits (a + b) else if c = -1 then fits (a - b) else true

theorem times_any (a c b : Int) (w : World) (ha : (Lit.int .i64 a).wf = true) (hb : (Lit.int .i64 b).wf = true) :
    Calls Yba.prog 7 #[.int .i64 a, .int .i64 c, .int .i64 b] w fun e w' => e = .returned (.tuple #[.int .i64 (tv a c b), .bool (tb a c b)]) ∧ w' = w := by
  by_cases h1 : c = 1
  · subst h1
    have e1 : tv a 1 b = wrap64 (a + b) := by simp [tv]
    have e2 : tb a 1 b = fits (a + b) := by simp [tb]
    rw [e1, e2]; exact times_one a b w ha hb
  by_cases h2 : c = -1
  · subst h2
    have e1 : tv a (-1) b = wrap64 (a - b) := by simp [tv]
    have e2 : tb a (-1) b = fits (a - b) := by simp [tb]
    rw [e1, e2]; exact times_neg a b w ha hb
  · have e1 : tv a c b = a := by simp [tv, h1, h2]
    have e2 : tb a c b = true := by simp [tb, h1, h2]
    rw [e1, e2]; exact times_else a c b w (beq_eq_false_iff_ne.2 h1) (beq_eq_false_iff_ne.2 h2)

theorem model_any (a c b : Int) (w : World) (ha : (Lit.int .i64 a).wf = true) (hb : (Lit.int .i64 b).wf = true) :
    Calls Yba.prog 8 #[.int .i64 a, .int .i64 c, .int .i64 b] w fun e w' => e = .returned (.tuple #[.int .i64 (tv a c b), .bool (tb a c b)]) ∧ w' = w := by
  by_cases h1 : c = 1
  · subst h1
    have e1 : tv a 1 b = wrap64 (a + b) := by simp [tv]
    have e2 : tb a 1 b = fits (a + b) := by simp [tb]
    rw [e1, e2]; exact model_one a b w ha hb
  by_cases h2 : c = -1
  · subst h2
    have e1 : tv a (-1) b = wrap64 (a - b) := by simp [tv]
    have e2 : tb a (-1) b = fits (a - b) := by simp [tb]
    rw [e1, e2]; exact model_neg a b w ha hb
  · have e1 : tv a c b = a := by simp [tv, h1, h2]
    have e2 : tb a c b = true := by simp [tb, h1, h2]
    rw [e1, e2]; exact model_else a c b w (beq_eq_false_iff_ne.2 h1) (beq_eq_false_iff_ne.2 h2)

end Go.Proofs.Ybulkbhaa
