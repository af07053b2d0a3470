import Derived.Test.YbulkbhaaRows
import Derived.WalkKit
import Derived.Laws.BitsLemmas
namespace Go.Proofs.Ybulkbhaa
open Go.RowKit

/-! ### The plain laws: the signs of '^' and '&' on int64 -/
theorem wrap_toInt (v : BitVec 64) : IntKind.i64.wrap (v.toNat : Int) = v.toInt := by
  rw [IntKind.wrap_i64, BitVec.toInt_eq_toNat_cond]
  have := v.isLt
  split <;> omega

theorem ofInt_toInt (a : Int) (h1 : -9223372036854775808 ≤ a) (h2 : a ≤ 9223372036854775807) : (BitVec.ofInt 64 a).toInt = a := by
  rw [BitVec.toInt_ofInt, Int.bmod_def]
  split <;> omega

theorem ofInt_msb (a : Int) (h1 : -9223372036854775808 ≤ a) (h2 : a ≤ 9223372036854775807) : (BitVec.ofInt 64 a).msb = decide (a < 0) := by
  rw [BitVec.msb_eq_toInt, ofInt_toInt a h1 h2]

theorem i64_bounds (a : Int) (h : (Lit.int .i64 a).wf = true) : -9223372036854775808 ≤ a ∧ a ≤ 9223372036854775807 := by
  simpa [Lit.wf, IntKind.min, IntKind.max, IntKind.bits, IntKind.signed] using h

theorem wrap64_bounds (a : Int) : -9223372036854775808 ≤ wrap64 a ∧ wrap64 a ≤ 9223372036854775807 := by
  unfold wrap64; omega

theorem sgn (a b c d : Int) (ha : -9223372036854775808 ≤ a ∧ a ≤ 9223372036854775807) (hb : -9223372036854775808 ≤ b ∧ b ≤ 9223372036854775807)
    (hc : -9223372036854775808 ≤ c ∧ c ≤ 9223372036854775807) (hd : -9223372036854775808 ≤ d ∧ d ≤ 9223372036854775807) :
    decide (0 ≤ bits .and .i64 (bits .xor .i64 a b) (bits .xor .i64 c d)) = decide (((a < 0) ↔ (b < 0)) ∨ ((c < 0) ↔ (d < 0))) := by
  have ex : ∀ x y : Int, bits .xor .i64 x y = (BitVec.ofInt 64 x ^^^ BitVec.ofInt 64 y).toInt := fun x y => wrap_toInt _
  have ea : ∀ x y : Int, bits .and .i64 x y = (BitVec.ofInt 64 x &&& BitVec.ofInt 64 y).toInt := fun x y => wrap_toInt _
  rw [ea, ex, ex, BitVec.ofInt_toInt, BitVec.ofInt_toInt]
  have h : ∀ v : BitVec 64, decide (0 ≤ v.toInt) = !v.msb := by
    intro v; rw [BitVec.msb_eq_toInt]
    by_cases h : v.toInt < 0
    · simp [h]
    · simp [h]; omega
  rw [h, BitVec.msb_and, BitVec.msb_xor, BitVec.msb_xor, ofInt_msb a ha.1 ha.2, ofInt_msb b hb.1 hb.2, ofInt_msb c hc.1 hc.2, ofInt_msb d hd.1 hd.2]
  by_cases h1 : a < 0 <;> by_cases h2 : b < 0 <;> by_cases h3 : c < 0 <;> by_cases h4 : d < 0 <;> simp [h1, h2, h3, h4]

/-- 'a + b fits an int64' -/
def fits (n : Int) : Bool := decide (-9223372036854775808 ≤ n ∧ n ≤ 9223372036854775807)

theorem add_fit (a b : Int) (ha : -9223372036854775808 ≤ a ∧ a ≤ 9223372036854775807) (hb : -9223372036854775808 ≤ b ∧ b ≤ 9223372036854775807) :
    decide (0 ≤ bits .and .i64 (bits .xor .i64 a (wrap64 (a + b))) (bits .xor .i64 b (wrap64 (a + b)))) = fits (a + b) := by
  rw [sgn a _ b _ ha (wrap64_bounds _) hb (wrap64_bounds _)]
  unfold fits wrap64
  congr 1
  apply propext
  omega

theorem sub_fit (a b : Int) (ha : -9223372036854775808 ≤ a ∧ a ≤ 9223372036854775807) (hb : -9223372036854775808 ≤ b ∧ b ≤ 9223372036854775807) :
    decide (0 ≤ bits .and .i64 (bits .xor .i64 a b) (bits .xor .i64 a (wrap64 (a - b)))) = fits (a - b) := by
  rw [sgn a _ a _ ha hb ha (wrap64_bounds _)]
  unfold fits wrap64
  congr 1
  apply propext
  omega

/-! ### The walks of the two leaves -/
theorem add_any (a b : Int) (w : World) (ha : (Lit.int .i64 a).wf = true) (hb : (Lit.int .i64 b).wf = true) :
    Calls Yba.prog 14 #[.int .i64 a, .int .i64 b] w fun e w' => e = .returned (.tuple #[.int .i64 (wrap64 (a + b)), .bool (fits (a + b))]) ∧ w' = w := by
  have h := add_fit a b (i64_bounds a ha) (i64_bounds b hb)
  have H : Hid (_ = _) := h
  clear h
  go_enter Yba.func14, Yba.ntmps14
  go_wp2
  go_ret2
  rw [← H.out]
  exact ⟨rfl, rfl⟩

theorem sub_any (a b : Int) (w : World) (ha : (Lit.int .i64 a).wf = true) (hb : (Lit.int .i64 b).wf = true) :
    Calls Yba.prog 15 #[.int .i64 a, .int .i64 b] w fun e w' => e = .returned (.tuple #[.int .i64 (wrap64 (a - b)), .bool (fits (a - b))]) ∧ w' = w := by
  have h := sub_fit a b (i64_bounds a ha) (i64_bounds b hb)
  have H : Hid (_ = _) := h
  clear h
  go_enter Yba.func15, Yba.ntmps15
  go_wp2
  go_ret2
  rw [← H.out]
  exact ⟨rfl, rfl⟩
end Go.Proofs.Ybulkbhaa
