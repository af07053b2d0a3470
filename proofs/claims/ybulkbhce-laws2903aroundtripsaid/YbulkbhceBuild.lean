import Derived.Test.YbulkbhceBuf
import Derived.Deep.LoopGhost
namespace Go.Proofs.Ybulkbhce
open Go.RowKit

/-- A string's bytes as numbers. -/
def sbytes (s : ByteArray) : List Int := s.data.toList.map (fun b => (b.toNat : Int))
theorem sbytes_length (s : ByteArray) : (sbytes s).length = s.size := by simp [sbytes]
theorem byteCells_eq (s : ByteArray) : byteCells s = bcells (sbytes s) := by simp [byteCells, bcells, sbytes]
/-- The first k of a number's eight bytes, the greatest first. -/
def ebytes (ep : Int) (k : Nat) : List Int := (List.range k).map (fun i => ep / 2 ^ (56 - 8 * i) % 256)

theorem ebytes_succ (ep : Int) (k : Nat) : ebytes ep (k + 1) = ebytes ep k ++ [ep / 2 ^ (56 - 8 * k) % 256] := by
  simp [ebytes, List.range_succ]
/-- The bytes as they are laid out. -/
def lay (s : ByteArray) (ep : Int) (G T : List Int) : List Int := [(s.size : Int)] ++ sbytes s ++ ebytes ep 8 ++ G ++ T
/-- What is known of the tail: its cells, in the world as it was. -/
def IsTail (w : World) (a : Option Addr) (t : Nat) (T : List Int) : Prop :=
  T.length = t ∧ (a = none → t = 0) ∧ ∀ x, a = some x → ∀ j n, T[j]? = some n → w.cell? (x.add j) = some (.int .u8 n)

theorem IsTail.src {W w : World} {a : Option Addr} {t ct : Nat} {T : List Int} (h : IsTail W a t T) (hb : Below W.heap.size W w) :
    Src Yba.prog 1 22 (.slice a t ct) T.length (bcells T) w := by
  obtain ⟨h1, h2, h3⟩ := h
  cases a with
  | none =>
    have ht := h2 rfl
    obtain rfl : T = [] := List.eq_nil_of_length_eq_zero (by omega)
    subst ht
    exact Src.ofNil w Yba.underlying22 ct
  | some x =>
    rw [h1]
    refine Src.ofSlice w Yba.underlying22 x t ct (bcells T) (by rw [bcells_length]; omega) (fun j v hv => ?_) (bcells_one T)
    obtain ⟨n, hn, rfl⟩ := bcells_get hv
    refine (hb.cell (p := x.add j) ?_).trans (h3 x rfl j n hn)
    have := World.block_lt_of_cell? W _ (h3 x rfl j n hn)
    exact this

/-- All that the builder has made so far. -/
structure Bs (W w : World) (b d cap : Nat) (G L : List Int) : Prop where
  below : Below W.heap.size W w
  buf : Buf w b cap L
  dig : Dg w d (bcells G)
  db : d < b
  ge : W.heap.size ≤ d
section
variable {W w w' : World} {b d cap : Nat} {G L M : List Int}
theorem Bs.on (h : Bs W w b d cap G L) (hb : Below w.heap.size w w') : Bs W w' b d cap G L :=
  ⟨h.below.trans (hb.mono h.below.size), h.buf.of_block (hb.block _ h.buf.lt), h.dig.below hb (Nat.lt_trans h.db h.buf.lt), h.db, h.ge⟩
theorem Bs.alloc (h : Bs W w b d cap G L) (o : Obj) : Bs W (w.alloc o) b d cap G L := h.on ((Below.refl _ _).alloc (Nat.le_refl _) o)
theorem Bs.app (h : Bs W w b d cap G L) (hb : Buf w' b cap M) (ho : ∀ k, k ≠ b → w'.heap[k]? = w.heap[k]?) (hp : w'.os = w.os ∧ w'.tape = w.tape ∧ w'.output = w.output) (hz : w'.heap.size = w.heap.size) : Bs W w' b d cap G M := by
  have hB : Below b w w' := ⟨hp.1, hp.2.1, hp.2.2, by omega, fun k hk => ho k (by omega)⟩
  exact ⟨h.below.trans (hB.mono (by have := h.db; have := h.ge; omega)), hb, h.dig.below hB h.db, h.db, h.ge⟩
end
theorem Dg.new (w : World) (G : List Int) (hG : G.length = 32) : Dg (w.alloc (.cells (bcells G).toArray 24)) w.heap.size (bcells G) := by
  have h : Dig (w.alloc (.cells (bcells G).toArray 24)) w.heap.size (bcells G) := by
    refine ⟨?_, by rw [bcells_length]; exact hG, bcells_one G⟩
    show (w.heap.push _)[w.heap.size]? = _
    exact Array.getElem?_push_size
  exact h.dg
theorem Bs.make {w v1 : World} {G : List Int} {n : Nat} (hG : G.length = 32) (hown : v1.ownsRow w.heap.size 5 1 (.slice (some ⟨(w.alloc (.cells (bcells G).toArray 24)).heap.size, 0, none⟩) 0 n) 0 [])
    (hg : (w.alloc (.cells (bcells G).toArray 24)).grownBy v1 none) : Bs w v1 (w.heap.size + 1) w.heap.size n G [] := by
  have hB : Below (w.heap.size + 1) (w.alloc (.cells (bcells G).toArray 24)) v1 := (Below.refl _ _).grown hg (by simp) (by simp)
  obtain ⟨_, h1 | ⟨g, cap, cur, hv, _, hh, _, _, hsz, _⟩⟩ := hown
  · simp at h1
  simp only [Value.slice.injEq, Option.some.injEq, Addr.mk.injEq, and_true, true_and, World.size_alloc] at hv
  obtain ⟨rfl, rfl⟩ := hv
  exact ⟨((Below.refl _ _).alloc (Nat.le_refl _) _).trans (hB.mono (by omega)), ⟨cur, hh, by omega, by simp, by simp⟩, (Dg.new w G hG).below hB (by omega), by omega, Nat.le_refl _⟩
/-- The digest, cut whole. -/
theorem dig_src {w : World} {d : Nat} {G : List Int} (h : Dg w d (bcells G)) (hG : G.length = 32) : Src Yba.prog 1 22 (.slice (some ⟨d, 0, none⟩) 32 32) G.length (bcells G) w := by
  rw [hG]
  exact Src.ofSlice w Yba.underlying22 _ 32 32 (bcells G) (by rw [bcells_length, hG]) (fun j v hv => by rw [Addr.add_mid]; exact h.range j v hv) (bcells_one G)
/-- One byte, laid in a block of its own. -/
theorem src_one (w : World) (n : Int) : Src Yba.prog 1 22 (.slice (some ⟨w.heap.size, 0, none⟩) 1 1) [n].length (bcells [n]) (w.alloc (.cells #[.int .u8 n] 5)) := by
  refine Src.ofSlice _ Yba.underlying22 _ 1 1 (bcells [n]) (by rw [bcells_length]; rfl) (fun j v hv => ?_) (bcells_one _)
  obtain ⟨k, hk, rfl⟩ := bcells_get hv
  have hj := (List.getElem?_eq_some_iff.1 hk).1
  simp at hj
  subst hj
  simp at hk
  subst hk
  simp [Addr.add]

set_option maxHeartbeats 1000000 in
set_option maxRecDepth 100000 in
theorem build_any (s : ByteArray) (ep : Int) (G : List Int) (a : Option Addr) (t ct : Nat) (T : List Int) (w : World) (hs : s.size ≤ 255) (hG : G.length = 32) (ht : t ≤ 1024) (hT : IsTail w a t T) :
    Calls Yba.prog 6 #[.string s, .int .u64 ep, .agg (bcells G).toArray, .slice a t ct] w fun e w' => ∃ b, e = .returned (.slice (some ⟨b, 0, none⟩) (1 + s.size + 40 + t) (1 + s.size + 40 + t)) ∧
      Buf w' b (1 + s.size + 40 + t) (lay s ep G T) ∧ w.heap.size ≤ b ∧ Below w.heap.size w w' := by
  obtain ⟨i0, hi0, hz00, hz01, hz02⟩ := info_parts info5'
  go_enter Yba.func6, Yba.ntmps6
  go_wp2_with (first
    | (at_make; refine wpList_make_own _ rfl (.const (.int .i64 0)) (.tmp 17) 22 rfl w.heap.size 5 i0 (.int .u8 0) 1 Yba.underlying22 hi0 hz00 hz01 .i64 .i64 _ (1 + s.size + 40 + t) rfl rfl (by omega) (by rw [hz02]; omega) (by unfold maxLen; omega) (by simp) ?_; intro v1 hown1 hgrow1; have hB1 := Bs.make hG hown1 hgrow1; clear hown1 hgrow1)
    | (at_builtin; refine wpList_app rfl (.tmp 19) (.tmp 23) 22 rfl (w.heap.size + 1) 0 (1 + s.size + 40 + t) rfl _ rfl [] [(s.size : Int)] 1 rfl rfl (by exact (hB1.alloc _).buf) (by exact src_one v1 _) (by simp; omega) ?_; intro v2 hb2 ho2 hp2 hz2; have hB2 := (hB1.alloc (.cells #[.int .u8 (s.size : Int)] 5)).app hb2 ho2 hp2 hz2; clear hb2 ho2 hp2 hz2)
    | (at_builtin; refine wpList_app rfl (.tmp 25) (.tmp 26) 9 rfl (w.heap.size + 1) 1 (1 + s.size + 40 + t) rfl _ rfl ([] ++ [(s.size : Int)]) (sbytes s) s.size rfl (sbytes_length s) (by exact hB2.buf) (by rw [sbytes_length, ← byteCells_eq]; exact Src.ofString _ Yba.underlying9 s) (by omega) ?_; intro v3 hb3 ho3 hp3 hz3; have hB3 := hB2.app hb3 ho3 hp3 hz3; clear hb3 ho3 hp3 hz3))
  generalize hcap : 1 + s.size + 40 + t = cap at *
  have HCAP : Hid (1 + s.size + 40 + t = cap) := hcap
  have hcl : cap ≤ 1320 := by omega
  have hcg : 1 + s.size + 40 + t ≤ cap := by omega
  clear hcap
  go_loopg [9, 10] 8 (fun gg s9 s10 wr => ∃ i : Nat, i ≤ 8 ∧ gg = 8 - i ∧ s10 = .int .i64 i ∧ s9 = .slice (some ⟨w.heap.size + 1, 0, none⟩) (1 + s.size + i) cap ∧ Bs w wr (w.heap.size + 1) w.heap.size cap G ([(s.size : Int)] ++ sbytes s ++ ebytes ep i))
  case atStart => exact ⟨0, by omega, by omega, rfl, rfl, by simpa [ebytes] using hB3⟩
  case round =>
    obtain ⟨i, hi, rfl, rfl, rfl, hB⟩ := hrel
    clear hB1 hB2 hB3
    by_cases hlt : i < 8
    · have hl : ([(s.size : Int)] ++ sbytes s ++ ebytes ep i).length = 1 + s.size + i := by simp [sbytes_length, ebytes]; omega
      have HL : Hid (_ = _) := hl
      clear hl
      go_wp2_with (at_builtin; refine wpList_app rfl (.tmp 32) (.tmp 40) 22 rfl (w.heap.size + 1) (1 + s.size + i) cap rfl _ rfl ([(s.size : Int)] ++ sbytes s ++ ebytes ep i) [ep / 2 ^ (56 - 8 * i) % 256] 1 HL.out rfl (by exact (hB.alloc _).buf) (by exact src_one wr _) (by omega) ?_; intro v4 hb4 ho4 hp4 hz4; have hB4 := (hB.alloc (.cells #[.int .u8 (ep / 2 ^ (56 - 8 * i) % 256)] 5)).app hb4 ho4 hp4 hz4; clear hb4 ho4 hp4 hz4)
      go_roundg (8 - (i + 1))
      case measure => omega
      case rel => exact ⟨i + 1, by omega, rfl, by go_num, rfl, by rw [ebytes_succ, ← List.append_assoc]; exact hB4⟩
    · obtain rfl : i = 8 := by omega
      have hl : ([(s.size : Int)] ++ sbytes s ++ ebytes ep 8).length = 1 + s.size + 8 := by simp [sbytes_length, ebytes]; omega
      have HL : Hid (_ = _) := hl
      have hl2 : ([(s.size : Int)] ++ sbytes s ++ ebytes ep 8 ++ G).length = 1 + s.size + 8 + 32 := by rw [List.length_append, hl, hG]
      have HL2 : Hid (_ = _) := hl2
      clear hl hl2
      go_wp2_with (first
        | (at_builtin; refine wpList_app rfl (.tmp 42) (.tmp 43) 22 rfl (w.heap.size + 1) (1 + s.size + 8) cap rfl _ rfl ([(s.size : Int)] ++ sbytes s ++ ebytes ep 8) G 32 HL.out hG (by exact hB.buf) (by exact dig_src hB.dig hG) (by omega) ?_; intro v5 hb5 ho5 hp5 hz5; have hB5 := hB.app hb5 ho5 hp5 hz5; clear hb5 ho5 hp5 hz5)
        | (at_builtin; refine wpList_app rfl (.tmp 45) (.tmp 46) 22 rfl (w.heap.size + 1) (1 + s.size + 8 + 32) cap rfl _ rfl ([(s.size : Int)] ++ sbytes s ++ ebytes ep 8 ++ G) T t HL2.out hT.1 (by exact hB5.buf) (by exact hT.src hB5.below) (by omega) ?_; intro v6 hb6 ho6 hp6 hz6; have hB6 := hB5.app hb6 ho6 hp6 hz6; clear hb6 ho6 hp6 hz6))
      go_ret
      refine ⟨w.heap.size + 1, ?_, ?_, by omega, hB6.below⟩
      · rw [HCAP.out]; rfl
      · rw [HCAP.out]; exact hB6.buf
end Go.Proofs.Ybulkbhce
