import Derived.Test.YbulkbhaaWidePlain
import Derived.Test.YbulkbhaaShift
namespace Go.Proofs.Ybulkbhaa
open Go.RowKit

/-- One step, plainly. -/
def stp (s : Nat) (e : Int) (t : Int × Int × Int) : Int × Int × Int :=
  if 0 ≤ t.2.2 then (t.1 + t.2.1 / 2 ^ min s 64, t.2.1 + t.1 / 2 ^ min s 64, t.2.2 - e)
  else (t.1 - t.2.1 / 2 ^ min s 64, t.2.1 - t.1 / 2 ^ min s 64, t.2.2 + e)

def run (es : Nat → Int) (t : Int × Int × Int) : Nat → Int × Int × Int
  | 0 => t
  | k + 1 => stp (hsh k) (es k) (run es t k)

/-- How large x and y can be behind k steps. -/
def bnd : Nat → Nat
  | 0 => 576460752303423488
  | k + 1 => bnd k + bnd k / 2 ^ min (hsh k) 64 + 1

theorem bnd_mono : ∀ (n k : Nat), bnd k ≤ bnd (k + n)
  | 0, k => Nat.le_refl _
  | n + 1, k => by
    have h := bnd_mono n k
    have e : bnd (k + (n + 1)) = bnd (k + n) + bnd (k + n) / 2 ^ min (hsh (k + n)) 64 + 1 := rfl
    rw [e]
    exact Nat.le_trans h (by rw [Nat.add_assoc]; exact Nat.le_add_right _ _)
set_option maxRecDepth 100000 in
theorem bnd_last : bnd 1024 ≤ 2305843009213693952 := by decide +kernel
theorem bnd_le (k : Nat) (h : k ≤ 1024) : bnd k ≤ 2305843009213693952 := by
  have := bnd_mono (1024 - k) k
  rw [show k + (1024 - k) = 1024 from by omega] at this
  exact Nat.le_trans this bnd_last

/-- The state within its bounds. -/
def Ok (k : Nat) (t : Int × Int × Int) : Prop :=
  (-(bnd k : Int) ≤ t.1 ∧ t.1 ≤ bnd k) ∧ (-(bnd k : Int) ≤ t.2.1 ∧ t.2.1 ≤ bnd k) ∧ (-(1099511627776 * ((k : Int) + 1)) ≤ t.2.2 ∧ t.2.2 ≤ 1099511627776 * ((k : Int) + 1))
def OkE (e : Int) : Prop := -1099511627776 ≤ e ∧ e ≤ 1099511627776

theorem sh_bd {v : Int} {B n : Nat} (h1 : -(B : Int) ≤ v) (h2 : v ≤ B) : -((B / 2 ^ n : Nat) : Int) - 1 ≤ v / 2 ^ n ∧ v / 2 ^ n ≤ ((B / 2 ^ n : Nat) : Int) := by
  have hQ := two_pow_pos n
  have hc : ((B / 2 ^ n : Nat) : Int) = (B : Int) / 2 ^ n := by simp
  have hup : v / 2 ^ n ≤ (B : Int) / 2 ^ n := Int.ediv_le_ediv hQ h2
  have hlo : -(B : Int) / 2 ^ n ≤ v / 2 ^ n := Int.ediv_le_ediv hQ h1
  have hm : -((B : Int) / 2 ^ n) - 1 ≤ -(B : Int) / 2 ^ n := by
    rw [Int.le_ediv_iff_mul_le hQ]
    have := Int.lt_ediv_add_one_mul_self (B : Int) hQ
    have e : (-((B : Int) / 2 ^ n) - 1) * 2 ^ n = -(((B : Int) / 2 ^ n + 1) * 2 ^ n) := by
      rw [← Int.neg_mul]; congr 1; omega
    omega
  rw [hc]
  exact ⟨Int.le_trans hm hlo, hup⟩

/-- All that the walk wants of one step: it stays in its words. -/
structure Fit (s : Nat) (e : Int) (t : Int × Int × Int) : Prop where
  x : In64 t.1
  y : In64 t.2.1
  z : In64 t.2.2
  ee : In64 e
  xs : In64 (t.1 / 2 ^ min s 64)
  ys : In64 (t.2.1 / 2 ^ min s 64)
  xp : In64 (t.1 + t.2.1 / 2 ^ min s 64)
  xm : In64 (t.1 - t.2.1 / 2 ^ min s 64)
  yp : In64 (t.2.1 + t.1 / 2 ^ min s 64)
  ym : In64 (t.2.1 - t.1 / 2 ^ min s 64)
  zp : In64 (t.2.2 + e)
  zm : In64 (t.2.2 - e)

theorem Ok.fit {k : Nat} {t : Int × Int × Int} {e : Int} (h : Ok k t) (he : OkE e) (hk : k < 1024) : Fit (hsh k) e t := by
  obtain ⟨⟨x1, x2⟩, ⟨y1, y2⟩, ⟨z1, z2⟩⟩ := h
  obtain ⟨e1, e2⟩ := he
  have hb := bnd_le k (by omega)
  have hx := sh_bd (n := min (hsh k) 64) x1 x2
  have hy := sh_bd (n := min (hsh k) 64) y1 y2
  have hd : bnd k / 2 ^ min (hsh k) 64 ≤ bnd k := Nat.div_le_self _ _
  generalize bnd k / 2 ^ min (hsh k) 64 = D at *
  constructor <;> (unfold In64; omega)

theorem Ok.step {k : Nat} {t : Int × Int × Int} {e : Int} (h : Ok k t) (he : OkE e) : Ok (k + 1) (stp (hsh k) e t) := by
  obtain ⟨⟨x1, x2⟩, ⟨y1, y2⟩, ⟨z1, z2⟩⟩ := h
  obtain ⟨e1, e2⟩ := he
  have hx := sh_bd (n := min (hsh k) 64) x1 x2
  have hy := sh_bd (n := min (hsh k) 64) y1 y2
  have hbn : bnd (k + 1) = bnd k + bnd k / 2 ^ min (hsh k) 64 + 1 := rfl
  unfold stp Ok
  rw [hbn]
  generalize bnd k / 2 ^ min (hsh k) 64 = D at *
  split <;> (simp only []; omega)

theorem Ok.run {es : Nat → Int} {t : Int × Int × Int} (h : Ok 0 t) (n : Nat) (he : ∀ k, k < n → OkE (es k)) : ∀ k, k ≤ n → Ok k (run es t k)
  | 0, _ => h
  | k + 1, hk => (Ok.run h n he k (by omega)).step (he k (by omega))

theorem Ok.start {x0 y0 z0 : Int} (hx : In64 x0) (hy : In64 y0) (hz : In64 z0) : Ok 0 (x0 / 16, y0 / 16, z0 / 8388608) := by
  unfold Ok In64 at *
  have e : bnd 0 = 576460752303423488 := rfl
  rw [e]
  simp only []
  omega
theorem OkE.of {a : Int} (h : In64 a) : OkE (a / 8388608) := by unfold OkE; unfold In64 at h; omega
end Go.Proofs.Ybulkbhaa
