import Derived.Test.YbulkbhceBuild
namespace Go.Proofs.Ybulkbhce
open Go.RowKit

/-! ### plain facts on the layout -/
def layD (s : ByteArray) (ep : Int) (G T : List Int) (i : Nat) : Int := (lay s ep G T).getD i 0
section
variable (s : ByteArray) (ep : Int) (G T : List Int)
theorem ebytes_length (k : Nat) : (ebytes ep k).length = k := by simp [ebytes]
theorem lay_length (hG : G.length = 32) : (lay s ep G T).length = 1 + s.size + 40 + T.length := by
  simp [lay, sbytes_length, ebytes_length, hG]; omega
theorem layD_0 : layD s ep G T 0 = s.size := by simp [layD, lay]
theorem layD_s {i : Nat} (hi : i < s.size) : layD s ep G T (1 + i) = (sbytes s).getD i 0 := by
  have hl := sbytes_length s
  unfold layD lay
  simp only [List.getD_eq_getElem?_getD]
  rw [List.append_assoc, List.append_assoc, List.append_assoc, List.getElem?_append_right (by simp), List.getElem?_append_left (by simp [hl]; omega)]
  congr 2; simp
theorem layD_e {i : Nat} (hi : i < 8) : layD s ep G T (1 + s.size + i) = ep / 2 ^ (56 - 8 * i) % 256 := by
  have hl := sbytes_length s
  have h : (lay s ep G T)[1 + s.size + i]? = some (ep / 2 ^ (56 - 8 * i) % 256) := by
    unfold lay
    rw [List.append_assoc, List.append_assoc, List.getElem?_append_right (by simp [hl]; omega), List.getElem?_append_left (by simp [hl, ebytes_length]; omega)]
    rw [ebytes, List.getElem?_map, show 1 + s.size + i - ([(s.size : Int)] ++ sbytes s).length = i from by simp [hl]; omega, List.getElem?_range hi]
    rfl
  rw [layD, List.getD_eq_getElem?_getD, h]; rfl
theorem layD_g {i : Nat} (hG : G.length = 32) (hi : i < 32) : layD s ep G T (s.size + 9 + i) = G.getD i 0 := by
  have hl := sbytes_length s
  have he := ebytes_length ep 8
  unfold layD lay
  simp only [List.getD_eq_getElem?_getD]
  rw [List.append_assoc, List.getElem?_append_right (by simp [hl, he]; try omega), List.getElem?_append_left (by simp [hl, he, hG]; try omega)]
  congr 2; simp [hl, he]; try omega
theorem layD_t {i : Nat} (hG : G.length = 32) : layD s ep G T (s.size + 41 + i) = T.getD i 0 := by
  have hl := sbytes_length s
  have he := ebytes_length ep 8
  unfold layD lay
  simp only [List.getD_eq_getElem?_getD]
  rw [List.getElem?_append_right (by simp [hl, he, hG]; try omega)]
  congr 2; simp [hl, he, hG]; try omega
theorem layD_by (hs : s.size ≤ 255) (hG : G.length = 32) (hgb : ∀ i, i < 32 → By (G.getD i 0)) (htb : ∀ i, i < T.length → By (T.getD i 0)) (i : Nat) (hi : i < 1 + s.size + 40 + T.length) : By (layD s ep G T i) := by
  by_cases h0 : i = 0
  · subst h0; rw [layD_0]; exact ⟨by omega, by omega⟩
  by_cases h1 : i < 1 + s.size
  · obtain ⟨j, rfl⟩ : ∃ j, i = 1 + j := ⟨i - 1, by omega⟩
    rw [layD_s s ep G T (by omega)]
    have hj : j < s.data.toList.length := by simp; omega
    have e : (sbytes s).getD j 0 = ((s.data.toList[j]'hj).toNat : Int) := by
      rw [List.getD_eq_getElem?_getD, sbytes, List.getElem?_map, List.getElem?_eq_getElem hj]; rfl
    rw [e]
    have := (s.data.toList[j]'hj).toNat_lt
    exact ⟨by omega, by omega⟩
  by_cases h2 : i < 1 + s.size + 8
  · obtain ⟨j, rfl⟩ : ∃ j, i = 1 + s.size + j := ⟨i - (1 + s.size), by omega⟩
    rw [layD_e s ep G T (by omega)]
    exact ⟨by omega, by omega⟩
  by_cases h3 : i < s.size + 41
  · obtain ⟨j, rfl⟩ : ∃ j, i = s.size + 9 + j := ⟨i - (s.size + 9), by omega⟩
    rw [layD_g s ep G T hG (by omega)]; exact hgb j (by omega)
  · obtain ⟨j, rfl⟩ : ∃ j, i = s.size + 41 + j := ⟨i - (s.size + 41), by omega⟩
    rw [layD_t s ep G T hG]; exact htb j (by omega)

theorem lay_str : strOf (layD s ep G T) 1 s.size = s := by
  have h : (strOf (layD s ep G T) 1 s.size).data.toList = s.data.toList := by
    rw [strOf_list]
    apply List.ext_getElem?
    intro j
    rw [List.getElem?_map, numsAt, List.getElem?_map]
    by_cases hj : j < s.size
    · have hj' : j < s.data.toList.length := by simpa using hj
      rw [List.getElem?_range hj, List.getElem?_eq_getElem hj']
      simp only [Option.map_some]
      rw [layD_s s ep G T hj]
      have e : (sbytes s).getD j 0 = ((s.data.toList[j]'hj').toNat : Int) := by
        rw [List.getD_eq_getElem?_getD, sbytes, List.getElem?_map, List.getElem?_eq_getElem hj']; rfl
      rw [e]
      simp
    · rw [List.getElem?_eq_none (by simp; omega), List.getElem?_eq_none (by simp; omega)]; rfl
  obtain ⟨⟨l⟩⟩ := s
  generalize strOf _ 1 _ = q at *
  obtain ⟨⟨l'⟩⟩ := q
  simp at h
  rw [h]
theorem lay_be8 (h1 : 0 ≤ ep) (h2 : ep < 18446744073709551616) : be8 (fun i => layD s ep G T (1 + s.size + i)) = ep := by
  unfold be8
  dsimp only
  rw [layD_e s ep G T (i := 0) (by omega), layD_e s ep G T (i := 1) (by omega), layD_e s ep G T (i := 2) (by omega), layD_e s ep G T (i := 3) (by omega), layD_e s ep G T (i := 4) (by omega), layD_e s ep G T (i := 5) (by omega), layD_e s ep G T (i := 6) (by omega), layD_e s ep G T (i := 7) (by omega)]
  have e0 : (2 : Int) ^ (56 - 8 * 0) = 72057594037927936 := by decide
  have e1 : (2 : Int) ^ (56 - 8 * 1) = 281474976710656 := by decide
  have e2 : (2 : Int) ^ (56 - 8 * 2) = 1099511627776 := by decide
  have e3 : (2 : Int) ^ (56 - 8 * 3) = 4294967296 := by decide
  have e4 : (2 : Int) ^ (56 - 8 * 4) = 16777216 := by decide
  have e5 : (2 : Int) ^ (56 - 8 * 5) = 65536 := by decide
  have e6 : (2 : Int) ^ (56 - 8 * 6) = 256 := by decide
  have e7 : (2 : Int) ^ (56 - 8 * 7) = 1 := by decide
  rw [e0, e1, e2, e3, e4, e5, e6, e7]
  omega
theorem lay_cells (hG : G.length = 32) : cellsAt (layD s ep G T) (s.size + 9) 32 = bcells G := by
  apply List.ext_getElem?
  intro j
  by_cases hj : j < 32
  · rw [cellsAt, List.getElem?_map, List.getElem?_range hj, bcells, List.getElem?_map, List.getElem?_eq_getElem (by omega)]
    simp only [Option.map_some]
    rw [layD_g s ep G T hG hj, List.getD_eq_getElem?_getD, List.getElem?_eq_getElem (by omega)]
    rfl
  · rw [List.getElem?_eq_none (by rw [cellsAt_length]; omega), List.getElem?_eq_none (by rw [bcells_length]; omega)]
/-- The buffer, as the cutter asks it. -/
theorem Buf.layD {w : World} {b cap : Nat} (h : Buf w b cap (lay s ep G T)) {i : Nat} (hi : i < (lay s ep G T).length) : w.cell? ⟨b, 0 + i, none⟩ = some (.int .u8 (layD s ep G T i)) := by
  rw [Nat.zero_add]
  refine h.cell ?_
  rw [Ybulkbhce.layD, List.getD_eq_getElem?_getD, List.getElem?_eq_getElem hi]; rfl
end
end Go.Proofs.Ybulkbhce
