import Derived.Test.YbulkbhceArr
namespace Go.Proofs.Ybulkbhce
open Go.RowKit

/-! ### plain facts: the string, the number -/
theorem fold_push (ns : List Int) : ∀ r : ByteArray, (ns.foldl (fun r n => r.push (UInt8.ofNat n.toNat)) r).data.toList = r.data.toList ++ ns.map (fun n => UInt8.ofNat n.toNat) := by
  induction ns with
  | nil => intro r; simp
  | cons n ns ih => intro r; rw [List.foldl_cons, ih]; simp [ByteArray.push]
theorem strOf_list (D : Nat → Int) (k m : Nat) : (strOf D k m).data.toList = (numsAt D k m).map (fun n => UInt8.ofNat n.toNat) := by
  unfold strOf; rw [fold_push]; rfl
theorem strOf_size (D : Nat → Int) (k m : Nat) : (strOf D k m).size = m := by
  have h := congrArg List.length (strOf_list D k m)
  simpa [numsAt] using h
theorem strOf_get (D : Nat → Int) (k m i : Nat) (hi : i < m) (hb : By (D (k + i))) (h : i < (strOf D k m).size) : (((strOf D k m)[i]'h).toNat : Int) = D (k + i) := by
  have h1 : (strOf D k m)[i]'h = (strOf D k m).data.toList[i]'(by simpa using h) := by simp; rfl
  rw [h1]
  have h2 : (strOf D k m).data.toList[i]? = some (UInt8.ofNat (D (k + i)).toNat) := by
    rw [strOf_list, List.getElem?_map, numsAt, List.getElem?_map, List.getElem?_range hi]; rfl
  have h3 := (List.getElem?_eq_some_iff.1 h2).2
  rw [h3]
  obtain ⟨b1, b2⟩ := hb
  have h4 : (UInt8.ofNat (D (k + i)).toNat).toNat = (D (k + i)).toNat := by
    rw [UInt8.toNat_ofNat']; omega
  rw [h4]; omega

/-- The number that the first i bytes spell. -/
def hor (D : Nat → Int) (k : Nat) : Nat → Int
  | 0 => 0
  | i + 1 => hor D k i * 256 + D (k + i)
theorem hor_bd (D : Nat → Int) (k : Nat) : ∀ i, (∀ j, j < i → By (D (k + j))) → 0 ≤ hor D k i ∧ hor D k i < 256 ^ i
  | 0, _ => by simp [hor]
  | i + 1, h => by
    obtain ⟨h1, h2⟩ := hor_bd D k i (fun j hj => h j (by omega))
    obtain ⟨b1, b2⟩ := h i (by omega)
    rw [hor, Int.pow_succ]
    omega
theorem hor_eight (D : Nat → Int) (k : Nat) : hor D k 8 = be8 (fun i => D (k + i)) := by
  simp only [hor, be8, Nat.add_zero]; omega
theorem hor_small (D : Nat → Int) (k i : Nat) (hi : i < 8) (h : ∀ j, j < i → By (D (k + j))) : 0 ≤ hor D k i ∧ hor D k i < 72057594037927936 := by
  obtain ⟨h1, h2⟩ := hor_bd D k i h
  refine ⟨h1, Int.lt_of_lt_of_le h2 ?_⟩
  have h3 : (256 : Nat) ^ i ≤ 256 ^ 7 := Nat.pow_le_pow_right (by decide) (by omega)
  have e : ((256 ^ i : Nat) : Int) = (256 : Int) ^ i := by simp
  omega
theorem or_low {x d : Int} (hx : 0 ≤ x) (hx' : x < 72057594037927936) (hd : By d) : bits .or .u64 (x * 256) d = x * 256 + d := by
  obtain ⟨d1, d2⟩ := hd
  rw [u64_or _ _ (by omega) (by omega) d1 (by omega)]
  rw [nat_join 8 _ _ (by have : (x * 256).toNat = x.toNat * 256 := by omega
                         rw [this]; exact Nat.mul_mod_left _ _) (by omega)]
  omega
theorem cut_ok' (g off r cap m : Nat) (D : Nat → Int) (w : World) (hm : m + 41 + r ≤ cap) (hD : ∀ i, i < m + 41 + r → By (D i)) (hd0 : D 0 = m) (hc : ∀ i, i < m + 41 + r → w.cell? ⟨g, off + i, none⟩ = some (.int .u8 (D i))) :
    Calls Yba.prog 5 #[.slice (some ⟨g, off, none⟩) (m + 41 + r : Nat) cap] w fun e w' => ∃ x : Addr, e = .returned (.tuple #[.string (strOf D 1 m), .int .u64 (be8 (fun i => D (1 + m + i))), .agg (cellsAt D (m + 9) 32).toArray, .slice (some x) r (cap - (m + 41)), .bool true]) ∧ (0 < r → x = ⟨g, off + (m + 41), none⟩) ∧ Below w.heap.size w w' := by
  refine (cut_ok g off (m + 41 + r) cap m D w hm hD hd0 (by omega) hc).mono fun e w' h => ?_
  obtain ⟨x, he, hx, hb⟩ := h
  refine ⟨x, ?_, fun h => hx (by omega), hb⟩
  rw [he, show m + 41 + r - (m + 41) = r from by omega]
end Go.Proofs.Ybulkbhce
