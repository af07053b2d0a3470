import Derived.Test.YbulkbhaaWidePlain
import Derived.WalkSpells
import Derived.RowKit3
import Derived.RegionTactic
import Derived.BigRegion
import Derived.Laws.ResultCell
import Derived.Laws.Externs
namespace Go.Proofs.Ybulkbhaa
open Go.RowKit

/-! ### math/bits.Add64, Sub64: the model's entries, run -/
theorem add64_0 (x y : Int) (hx : 0 ≤ x) (hy : 0 ≤ y) (w : World) : (callFunc 20 #[.int .u64 x, .int .u64 y, .int .u64 0]).run Yba.prog w =
    .ok (.value (.tuple #[.int .u64 ((x + y) % 18446744073709551616), .int .u64 ((x + y) / 18446744073709551616)])) w := by
  rw [run_callFunc_extern Yba.func20 (by kernel_rfl) (by kernel_rfl) (by kernel_rfl) (e := add64Entry) (by kernel_rfl), run_add64 x y 0 hx hy (by omega) (by omega)]
  simp [Result.andThen]

def sub64E : Array Value → Sem Value := fun args => do
  let (x, y, b) ← Extern.MathBitsCarry.three "Sub64" args
  pure (Extern.MathBitsCarry.pair ((x + Extern.MathBitsCarry.m64 - y - b) % Extern.MathBitsCarry.m64) (if x < y + b then 1 else 0))

theorem sub64_0 (x y : Int) (hx : 0 ≤ x) (hy : 0 ≤ y) (hy' : y < 18446744073709551616) (w : World) : (callFunc 21 #[.int .u64 x, .int .u64 y, .int .u64 0]).run Yba.prog w =
    .ok (.value (.tuple #[.int .u64 ((x - y) % 18446744073709551616), .int .u64 (bor x y)])) w := by
  rw [run_callFunc_extern Yba.func21 (by kernel_rfl) (by kernel_rfl) (by kernel_rfl) (e := sub64E) (by kernel_rfl)]
  obtain ⟨x, rfl⟩ := Int.eq_ofNat_of_zero_le hx
  obtain ⟨y, rfl⟩ := Int.eq_ofNat_of_zero_le hy
  have h : (sub64E #[.int .u64 x, .int .u64 y, .int .u64 0]).run Yba.prog w = .ok (.tuple #[.int .u64 (((x + 18446744073709551616 - y - 0) % 18446744073709551616 : Nat) : Int), .int .u64 ((if x < y + 0 then 1 else 0 : Nat) : Int)]) w := rfl
  rw [h]
  have e1 : (((x + 18446744073709551616 - y - 0) % 18446744073709551616 : Nat) : Int) = ((x : Int) - y) % 18446744073709551616 := by omega
  have e2 : ((if x < y + 0 then 1 else 0 : Nat) : Int) = bor x y := by unfold bor; split <;> split <;> omega
  rw [e1, e2]
  rfl

theorem wide_any (v : Int) (w : World) :
    Calls Yba.prog 9 #[.int .i64 v] w fun e w' => e = .returned (.agg #[.int .i64 (hi v), .int .u64 (lo v)]) ∧ ∃ c1 : Array Value, w' = w.alloc (.cells c1 31) := by
  have h1 : v / 9223372036854775808 = hi v := rfl
  have h2 : IntKind.u64.wrap v = lo v := lo_wrap v
  have H1 : Hid (_ = _) := h1
  have H2 : Hid (_ = _) := h2
  clear h1 h2
  go_enter Yba.func9, Yba.ntmps9
  go_wp2
  simp [bodyPost, results, Yba.results9, go_sem, H1.out, H2.out]
  exact ⟨_, rfl⟩

theorem rsh_small (v : Int) (s : Nat) (w : World) (hv : In64 v) (hs : s < 64) (hs1 : 1 ≤ s)  :
    Calls Yba.prog 17 #[.agg #[.int .i64 (hi v), .int .u64 (lo v)], .int .u64 s] w fun e w' => e = .returned (.agg #[.int .i64 (hi (v / 2 ^ s)), .int .u64 (lo (v / 2 ^ s))]) ∧ ∃ c1 c2 : Array Value, w' = (w.alloc (.cells c1 31)).alloc (.cells c2 31) := by
  have H1 : Hid (_ = _) := hi_sh hv s s
  have H2 : Hid (_ = _) := lo_sh hv s hs1 hs
  have H3 : Hid (_ = _) := lo_wrap (hi v)
  clear hv
  go_enter Yba.func17, Yba.ntmps17
  go_wp2
  simp [bodyPost, results, Yba.results17, go_sem, H1.out, H3.out, H2.out]
  exact ⟨_, _, rfl⟩

theorem rsh_big (v : Int) (s : Nat) (w : World) (hv : In64 v) (hs : 64 ≤ s) (hs1 : s ≤ 1100)  :
    Calls Yba.prog 17 #[.agg #[.int .i64 (hi v), .int .u64 (lo v)], .int .u64 s] w fun e w' => e = .returned (.agg #[.int .i64 (hi (hi v)), .int .u64 (lo (hi v))]) ∧ ∃ c1 c2 : Array Value, w' = (w.alloc (.cells c1 31)).alloc (.cells c2 31) := by
  have H1 : Hid (_ = _) := lo_hi_far hv (min (s - 64) 64)
  have H3 : Hid (_ = _) := lo_wrap (hi v / 2 ^ min (s - 64) 64)
  have H4 : Hid (hi v / 9223372036854775808 = hi (hi v)) := rfl
  clear hv
  go_enter Yba.func17, Yba.ntmps17
  go_wp2
  simp [bodyPost, results, Yba.results17, go_sem, H3.out, H1.out, H4.out]
  exact ⟨_, _, rfl⟩

/-- rsh, at every shift from 1 to 1100. -/
theorem rsh_any (v : Int) (s : Nat) (w : World) (hv : In64 v) (hs1 : 1 ≤ s) (hs : s ≤ 1100)  :
    Calls Yba.prog 17 #[.agg #[.int .i64 (hi v), .int .u64 (lo v)], .int .u64 s] w fun e w' => e = .returned (.agg #[.int .i64 (hi (v / 2 ^ min s 64)), .int .u64 (lo (v / 2 ^ min s 64))]) ∧ ∃ c1 c2 : Array Value, w' = (w.alloc (.cells c1 31)).alloc (.cells c2 31) := by
  by_cases h : s < 64
  · rw [show min s 64 = s from by omega]; exact rsh_small v s w hv h hs1
  · rw [show min s 64 = 64 from by omega, sh_far hv]; exact rsh_big v s w hv (by omega) hs

/-- The carry of the low words. -/
def car (a b : Int) : Int := (lo a + lo b) / 18446744073709551616
theorem car_range (a b : Int) : 0 ≤ car a b ∧ car a b ≤ 1 := by
  have la := lo_range a
  have lb := lo_range b
  unfold car; omega
theorem add_hi' {a b : Int} (ha : In64 a) (hb : In64 b) (hs : In64 (a + b)) : hi a + hi b + car a b = hi (a + b) := by
  have ra := hi_range ha
  have rb := hi_range hb
  have rc := car_range a b
  have h := add_hi ha hb hs
  rw [wrap_small (n := hi a + hi b) (by omega)] at h
  have e : (lo a + lo b) / 18446744073709551616 = car a b := rfl
  rw [e, wrap_small (by omega)] at h
  exact h
theorem sub_hi' {a b : Int} (ha : In64 a) (hb : In64 b) (hs : In64 (a - b)) : hi a - hi b - bor (lo a) (lo b) = hi (a - b) := by
  have ra := hi_range ha
  have rb := hi_range hb
  have rc := bor_range (lo a) (lo b)
  have h := sub_hi ha hb hs
  rw [wrap_small (n := hi a - hi b) (by omega), wrap_small (by omega)] at h
  exact h
theorem add64_w (a b : Int) (w : World) : (callFunc 20 #[.int .u64 (lo a), .int .u64 (lo b), .int .u64 0]).run Yba.prog w =
    .ok (.value (.tuple #[.int .u64 (lo (a + b)), .int .u64 (car a b)])) w := by
  rw [add64_0 _ _ (lo_range a).1 (lo_range b).1, add_lo]; rfl
theorem sub64_w (a b : Int) (w : World) : (callFunc 21 #[.int .u64 (lo a), .int .u64 (lo b), .int .u64 0]).run Yba.prog w =
    .ok (.value (.tuple #[.int .u64 (lo (a - b)), .int .u64 (bor (lo a) (lo b))])) w := by
  rw [sub64_0 _ _ (lo_range a).1 (lo_range b).1 (lo_range b).2, sub_lo]

theorem add_wide (a b : Int) (w : World) (ha : In64 a) (hb : In64 b) (hs : In64 (a + b)) :
    Calls Yba.prog 18 #[.agg #[.int .i64 (hi a), .int .u64 (lo a)], .agg #[.int .i64 (hi b), .int .u64 (lo b)]] w fun e w' => e = .returned (.tuple #[.agg #[.int .i64 (hi (a + b)), .int .u64 (lo (a + b))], .bool true]) ∧ ∃ c1 c2 c3 : Array Value, w' = (((w.alloc (.cells c1 31)).alloc (.cells c2 31)).alloc (.cells c3 31)).drew := by
  have H1 := add_hi' ha hb hs
  have H3 := add_ok ha hb hs
  obtain ⟨ra1, ra2⟩ := hi_range ha
  obtain ⟨rb1, rb2⟩ := hi_range hb
  obtain ⟨rc1, rc2⟩ := car_range a b
  clear ha hb hs
  go_enter Yba.func18, Yba.ntmps18
  go_wp2_with (simp only [add64_w])
  go_region
  all_goals go_wp2
  all_goals (simp [bodyPost, results, Yba.results18, go_sem])
  all_goals exact ⟨_, _, _, rfl⟩

theorem sub_wide (a b : Int) (w : World) (ha : In64 a) (hb : In64 b) (hs : In64 (a - b)) :
    Calls Yba.prog 19 #[.agg #[.int .i64 (hi a), .int .u64 (lo a)], .agg #[.int .i64 (hi b), .int .u64 (lo b)]] w fun e w' => e = .returned (.tuple #[.agg #[.int .i64 (hi (a - b)), .int .u64 (lo (a - b))], .bool true]) ∧ ∃ c1 c2 c3 : Array Value, w' = (((w.alloc (.cells c1 31)).alloc (.cells c2 31)).alloc (.cells c3 31)).drew := by
  have H1 := sub_hi' ha hb hs
  have H3 := sub_ok ha hb hs
  obtain ⟨ra1, ra2⟩ := hi_range ha
  obtain ⟨rb1, rb2⟩ := hi_range hb
  obtain ⟨rc1, rc2⟩ := bor_range (lo a) (lo b)
  clear ha hb hs
  go_enter Yba.func19, Yba.ntmps19
  go_wp2_with (simp only [sub64_w])
  go_region
  all_goals go_wp2
  all_goals (simp [bodyPost, results, Yba.results19, go_sem])
  all_goals exact ⟨_, _, _, rfl⟩

theorem below_three {w w' : World} {c1 c2 c3 : Array Value} (h : w' = (((w.alloc (.cells c1 31)).alloc (.cells c2 31)).alloc (.cells c3 31)).drew) : Below w.heap.size w w' := by
  subst h
  exact ((((Below.refl _ _).alloc (Nat.le_refl _) _).alloc (by simp) _).alloc (by simp; omega) _).drew
theorem add_w (a b : Int) (w : World) (ha : In64 a) (hb : In64 b) (hs : In64 (a + b)) :
    Calls Yba.prog 18 #[.agg #[.int .i64 (hi a), .int .u64 (lo a)], .agg #[.int .i64 (hi b), .int .u64 (lo b)]] w fun e w' => e = .returned (.tuple #[.agg #[.int .i64 (hi (a + b)), .int .u64 (lo (a + b))], .bool true]) ∧ Below w.heap.size w w' :=
  (add_wide a b w ha hb hs).mono fun _ _ ⟨he, _, _, _, hw⟩ => ⟨he, below_three hw⟩
theorem sub_w (a b : Int) (w : World) (ha : In64 a) (hb : In64 b) (hs : In64 (a - b)) :
    Calls Yba.prog 19 #[.agg #[.int .i64 (hi a), .int .u64 (lo a)], .agg #[.int .i64 (hi b), .int .u64 (lo b)]] w fun e w' => e = .returned (.tuple #[.agg #[.int .i64 (hi (a - b)), .int .u64 (lo (a - b))], .bool true]) ∧ Below w.heap.size w w' :=
  (sub_wide a b w ha hb hs).mono fun _ _ ⟨he, _, _, _, hw⟩ => ⟨he, below_three hw⟩
end Go.Proofs.Ybulkbhaa
