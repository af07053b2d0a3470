import Derived.Test.YbulkbhaaAddSub
import Derived.Laws.BitsAllLaws
namespace Go.Proofs.Ybulkbhaa
open Go.RowKit

/-! ### 128-bit words that hold an int64: plain arithmetic -/
def hi (v : Int) : Int := v / 9223372036854775808
def lo (v : Int) : Int := v % 18446744073709551616
/-- 'v fits an int64' -/
def In64 (v : Int) : Prop := -9223372036854775808 ≤ v ∧ v ≤ 9223372036854775807

theorem hi_neg {v : Int} (h : In64 v) (hn : v < 0) : hi v = -1 := by unfold hi; unfold In64 at h; omega
theorem hi_pos {v : Int} (h : In64 v) (hn : 0 ≤ v) : hi v = 0 := by unfold hi; unfold In64 at h; omega
theorem hi_in {v : Int} (h : In64 v) : In64 (hi v) := by unfold hi; unfold In64 at h ⊢; omega
theorem hi_lt {v : Int} (h : In64 v) : hi v < 0 ↔ v < 0 := by unfold hi; unfold In64 at h; omega
theorem hi_range {v : Int} (h : In64 v) : -1 ≤ hi v ∧ hi v ≤ 0 := by unfold hi; unfold In64 at h; omega
theorem lo_range (v : Int) : 0 ≤ lo v ∧ lo v < 18446744073709551616 := by unfold lo; omega
theorem lo_wrap (v : Int) : IntKind.u64.wrap v = lo v := by simp [IntKind.wrap, IntKind.bits, IntKind.signed, lo]

theorem two_pow_pos (s : Nat) : (0 : Int) < 2 ^ s := Int.pow_pos (by decide)

theorem ediv_neg {v Q : Int} (hQ : 0 < Q) (hn : v < 0) : v / Q < 0 := Int.ediv_neg_of_neg_of_pos hn hQ
theorem ediv_pos {v Q : Int} (hQ : 0 < Q) (hn : 0 ≤ v) : 0 ≤ v / Q := Int.ediv_nonneg hn (Int.le_of_lt hQ)

/-- A shift to the right stays between v and its sign. -/
theorem ediv_bd {v Q : Int} (hQ : 0 < Q) : (0 ≤ v → 0 ≤ v / Q ∧ v / Q ≤ v) ∧ (v < 0 → v ≤ v / Q ∧ v / Q ≤ -1) := by
  refine ⟨fun h => ⟨ediv_pos hQ h, ?_⟩, fun h => ⟨?_, ?_⟩⟩
  · exact Int.ediv_le_self _ h
  · rw [Int.le_ediv_iff_mul_le hQ]
    have h1 : v * Q ≤ v * 1 := Int.mul_le_mul_of_nonpos_left (by omega) (by omega)
    simpa using h1
  · have := ediv_neg hQ h; omega

theorem sh_in {v : Int} (h : In64 v) (n : Nat) : In64 (v / 2 ^ n) := by
  have hb := ediv_bd (v := v) (two_pow_pos n)
  unfold In64 at h ⊢
  by_cases hn : 0 ≤ v
  · have := hb.1 hn; omega
  · have := hb.2 (by omega); omega

theorem sh_sgn (v : Int) (n : Nat) : v / 2 ^ n < 0 ↔ v < 0 := by
  have hb := ediv_bd (v := v) (two_pow_pos n)
  by_cases hn : 0 ≤ v
  · have := hb.1 hn; omega
  · have := hb.2 (by omega); omega

/-- The high word of a shift. -/
theorem hi_sh {v : Int} (h : In64 v) (n m : Nat) : hi v / 2 ^ n = hi (v / 2 ^ m) := by
  have h2 := sh_in h m
  have hs := sh_sgn v m
  by_cases hn : v < 0
  · rw [hi_neg h hn, hi_neg h2 (hs.2 hn)]
    have hb := (ediv_bd (v := -1) (two_pow_pos n)).2 (by omega)
    omega
  · rw [hi_pos h (by omega), hi_pos h2 (by omega)]
    simp

/-- A shift by 64 or more leaves the sign. -/
theorem sh_far {v : Int} (h : In64 v) : v / 2 ^ 64 = hi v := by
  unfold hi; unfold In64 at h
  have e : (2 : Int) ^ 64 = 18446744073709551616 := by decide
  rw [e]; omega

theorem lo_hi_far {v : Int} (h : In64 v) (n : Nat) : lo (hi v / 2 ^ n) = lo (hi v) := by
  have h2 := hi_sh h n 0
  simp at h2
  rw [h2]

theorem lo_sh {v : Int} (h : In64 v) (s : Nat) (h1 : 1 ≤ s) (h2 : s < 64) :
    bits .or .u64 (lo v / 2 ^ s) (IntKind.u64.wrap (lo (hi v) * 2 ^ (64 - s))) = lo (v / 2 ^ s) := by
  have hQ := two_pow_pos s
  have hP := two_pow_pos (64 - s)
  have hPQ : (2 : Int) ^ (64 - s) * 2 ^ s = 18446744073709551616 := by
    rw [← Int.pow_add, show 64 - s + s = 64 from by omega]; decide
  have hlr := lo_range v
  have hb := ediv_bd (v := lo v) hQ
  have hb1 := hb.1 hlr.1
  rw [lo_wrap]
  by_cases hn : v < 0
  · -- a negative word
    have hv : lo v = v + 18446744073709551616 := by unfold lo; unfold In64 at h; omega
    have hm : lo (hi v) = 18446744073709551615 := by rw [hi_neg h hn]; rfl
    have hdiv : lo v / 2 ^ s = v / 2 ^ s + 2 ^ (64 - s) := by
      rw [hv, ← hPQ, Int.add_mul_ediv_right _ _ (Int.ne_of_gt hQ)]
    have hPle : (2 : Int) ^ (64 - s) ≤ 9223372036854775808 := by
      have h3 : (2 : Nat) ^ (64 - s) ≤ 2 ^ 63 := Nat.pow_le_pow_right (by decide) (by omega)
      have e : ((2 ^ (64 - s) : Nat) : Int) = (2 : Int) ^ (64 - s) := by simp
      omega
    have hl2 : lo (lo (hi v) * 2 ^ (64 - s)) = 18446744073709551616 - 2 ^ (64 - s) := by
      rw [hm]
      unfold lo
      generalize (2 : Int) ^ (64 - s) = P at *
      omega
    have hneg := (ediv_bd (v := v) hQ).2 hn
    rw [u64_or _ _ hb1.1 (by omega) (by rw [hl2]; omega) (by rw [hl2]; omega)]
    have hlo : lo (v / 2 ^ s) = v / 2 ^ s + 18446744073709551616 := by
      have := sh_in h s
      unfold lo; unfold In64 at this
      generalize v / 2 ^ s = t at *
      omega
    rw [hlo, Nat.or_comm]
    have hlt : (lo v / 2 ^ s).toNat < 2 ^ (64 - s) := by
      have e : ((2 ^ (64 - s) : Nat) : Int) = (2 : Int) ^ (64 - s) := by simp
      omega
    have hmod : (lo (lo (hi v) * 2 ^ (64 - s))).toNat % 2 ^ (64 - s) = 0 := by
      rw [hl2]
      have e : ((2 ^ (64 - s) : Nat) : Int) = (2 : Int) ^ (64 - s) := by simp
      have e2 : (18446744073709551616 - (2 : Int) ^ (64 - s)).toNat = 2 ^ (64 - s) * (2 ^ s - 1) := by
        have e3 : ((2 ^ s : Nat) : Int) = (2 : Int) ^ s := by simp
        have e4 : (2 ^ (64 - s) * 2 ^ s : Nat) = 18446744073709551616 := by
          rw [← Nat.pow_add, show 64 - s + s = 64 from by omega]
        rw [Nat.mul_sub, e4]
        omega
      rw [e2, Nat.mul_mod_right]
    rw [nat_join (64 - s) _ _ hmod hlt, hl2]
    generalize (2 : Int) ^ (64 - s) = P at *
    generalize v / 2 ^ s = t at *
    omega
  · have hv : lo v = v := by unfold lo; unfold In64 at h; omega
    have hm : lo (hi v) = 0 := by rw [hi_pos h (by omega)]; rfl
    rw [hm, Int.zero_mul]
    have h0 : lo 0 = 0 := rfl
    rw [h0, u64_or _ _ hb1.1 (by omega) (by omega) (by omega), hv]
    have hp := (ediv_bd (v := v) hQ).1 (by omega)
    have hlo : lo (v / 2 ^ s) = v / 2 ^ s := by
      have := sh_in h s
      unfold lo; unfold In64 at this
      generalize v / 2 ^ s = t at *
      omega
    rw [hlo]
    have e : (v / 2 ^ s).toNat ||| Int.toNat 0 = (v / 2 ^ s).toNat := by simp
    rw [e]
    omega

/-! ### sums and differences -/
theorem lo_pos {v : Int} (h : In64 v) (hn : 0 ≤ v) : lo v = v := by unfold lo; unfold In64 at h; omega
theorem lo_neg {v : Int} (h : In64 v) (hn : v < 0) : lo v = v + 18446744073709551616 := by unfold lo; unfold In64 at h; omega
theorem wrap_small {n : Int} (h : -100 ≤ n ∧ n ≤ 100) : wrap64 n = n := by unfold wrap64; omega
theorem add_hi {a b : Int} (ha : In64 a) (hb : In64 b) (hs : In64 (a + b)) :
    wrap64 (wrap64 (hi a + hi b) + (lo a + lo b) / 18446744073709551616) = hi (a + b) := by
  have ra := hi_range ha
  have rb := hi_range hb
  have la := lo_range a
  have lb := lo_range b
  rw [wrap_small (n := hi a + hi b) (by omega), wrap_small (by omega)]
  by_cases h1 : a < 0 <;> by_cases h2 : b < 0 <;> by_cases h3 : a + b < 0
  · rw [hi_neg ha h1, hi_neg hb h2, hi_neg hs h3, lo_neg ha h1, lo_neg hb h2]; unfold In64 at *; omega
  · omega
  · rw [hi_neg ha h1, hi_pos hb (by omega), hi_neg hs h3, lo_neg ha h1, lo_pos hb (by omega)]; unfold In64 at *; omega
  · rw [hi_neg ha h1, hi_pos hb (by omega), hi_pos hs (by omega), lo_neg ha h1, lo_pos hb (by omega)]; unfold In64 at *; omega
  · rw [hi_pos ha (by omega), hi_neg hb h2, hi_neg hs h3, lo_pos ha (by omega), lo_neg hb h2]; unfold In64 at *; omega
  · rw [hi_pos ha (by omega), hi_neg hb h2, hi_pos hs (by omega), lo_pos ha (by omega), lo_neg hb h2]; unfold In64 at *; omega
  · omega
  · rw [hi_pos ha (by omega), hi_pos hb (by omega), hi_pos hs (by omega), lo_pos ha (by omega), lo_pos hb (by omega)]; unfold In64 at *; omega
theorem add_lo (a b : Int) : (lo a + lo b) % 18446744073709551616 = lo (a + b) := by unfold lo; omega
theorem add_ok {a b : Int} (ha : In64 a) (hb : In64 b) (hs : In64 (a + b)) :
    decide (0 ≤ bits .and .i64 (bits .xor .i64 (hi a) (hi (a + b))) (bits .xor .i64 (hi b) (hi (a + b)))) = true := by
  rw [sgn _ _ _ _ (hi_in ha) (hi_in hs) (hi_in hb) (hi_in hs)]
  simp only [hi_lt ha, hi_lt hb, hi_lt hs]
  simp; omega
/-- The borrow. -/
def bor (x y : Int) : Int := if x < y then 1 else 0
theorem bor_range (x y : Int) : 0 ≤ bor x y ∧ bor x y ≤ 1 := by unfold bor; split <;> decide
theorem sub_hi {a b : Int} (ha : In64 a) (hb : In64 b) (hs : In64 (a - b)) :
    wrap64 (wrap64 (hi a - hi b) - bor (lo a) (lo b)) = hi (a - b) := by
  have ra := hi_range ha
  have rb := hi_range hb
  have rr := bor_range (lo a) (lo b)
  rw [wrap_small (n := hi a - hi b) (by omega), wrap_small (by omega)]
  unfold bor
  by_cases h1 : a < 0 <;> by_cases h2 : b < 0 <;> by_cases h3 : a - b < 0
  · rw [hi_neg ha h1, hi_neg hb h2, hi_neg hs h3, lo_neg ha h1, lo_neg hb h2]; unfold In64 at *; split <;> omega
  · rw [hi_neg ha h1, hi_neg hb h2, hi_pos hs (by omega), lo_neg ha h1, lo_neg hb h2]; unfold In64 at *; split <;> omega
  · rw [hi_neg ha h1, hi_pos hb (by omega), hi_neg hs h3, lo_neg ha h1, lo_pos hb (by omega)]; unfold In64 at *; split <;> omega
  · omega
  · omega
  · rw [hi_pos ha (by omega), hi_neg hb h2, hi_pos hs (by omega), lo_pos ha (by omega), lo_neg hb h2]; unfold In64 at *; split <;> omega
  · rw [hi_pos ha (by omega), hi_pos hb (by omega), hi_neg hs h3, lo_pos ha (by omega), lo_pos hb (by omega)]; unfold In64 at *; split <;> omega
  · rw [hi_pos ha (by omega), hi_pos hb (by omega), hi_pos hs (by omega), lo_pos ha (by omega), lo_pos hb (by omega)]; unfold In64 at *; split <;> omega
theorem sub_lo (a b : Int) : (lo a - lo b) % 18446744073709551616 = lo (a - b) := by unfold lo; omega
theorem sub_ok {a b : Int} (ha : In64 a) (hb : In64 b) (hs : In64 (a - b)) :
    decide (0 ≤ bits .and .i64 (bits .xor .i64 (hi a) (hi b)) (bits .xor .i64 (hi a) (hi (a - b)))) = true := by
  rw [sgn _ _ _ _ (hi_in ha) (hi_in hb) (hi_in ha) (hi_in hs)]
  simp only [hi_lt ha, hi_lt hb, hi_lt hs]
  simp; omega

end Go.Proofs.Ybulkbhaa
