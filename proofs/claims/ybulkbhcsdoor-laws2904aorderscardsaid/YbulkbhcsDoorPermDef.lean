import Derived.Test.YbulkbhcsDoorMem
namespace Go.Proofs.YbulkbhcsDoor

/-- The arrangements of l, in the order of l. -/
def arr : Nat → List Nat → List (List Nat)
  | 0, _ => [[]]
  | m + 1, l => l.flatMap (fun v => (arr m (l.erase v)).map (v :: ·))
def CH (n : Nat) : List (List Nat) := arr n (List.range n)
/-- The place of v in p. -/
def ix (p : List Nat) (v : Nat) : Nat := p.idxOf v
/-- Every edge goes forward. -/
def topoB (g : List (List Nat)) (p : List Nat) : Bool := (List.range g.length).all (fun u => (g.getD u []).all (fun v => decide (ix p u < ix p v)))

def pv (p : List Nat) : Nat → Option Nat
  | 0 => none
  | i + 1 => if p.getD (i + 1) 0 < p.getD i 0 then pv p i else some i
def sc (p : List Nat) (x : Nat) : Nat → Nat
  | 0 => 0
  | j + 1 => if p.getD (j + 1) 0 < x then sc p x j else j + 1
def swp (p : List Nat) (i j : Nat) : List Nat := (p.set i (p.getD j 0)).set j (p.getD i 0)
def rv (off m : Nat) : Nat → List Nat → List Nat
  | 0, p => p
  | t + 1, p => swp (rv off m t p) (off + t) (off + (m - 1 - t))
def nextP (n : Nat) (p : List Nat) : Option (List Nat) :=
  (pv p (n - 1)).map fun i => rv (i + 1) (n - (i + 1)) ((n - (i + 1)) / 2) (swp p i (sc p (p.getD i 0) (n - 1)))
def linked (n : Nat) : List (List Nat) → Bool
  | [] => true
  | [p] => nextP n p == none
  | p :: q :: l => nextP n p == some q && linked n (q :: l)
def chk (n : Nat) : Bool := (CH n).head? == some (List.range n) && linked n (CH n) && (CH n).all (fun p => p.length == n && p.all (fun x => decide (x < n)) && decide p.Nodup)
theorem chk_all : ∀ n : Nat, n < 7 → 1 ≤ n → chk n = true := by decide +kernel
/-- The numbers p. -/
def nz (p : List Nat) : List Int := p.map (fun v : Nat => (v : Int))
theorem nz_len (p : List Nat) : (nz p).length = p.length := by simp [nz]
theorem nz_get (p : List Nat) (i : Nat) : (nz p).getD i 0 = ((p.getD i 0 : Nat) : Int) := by
  unfold nz
  rw [List.getD_eq_getElem?_getD, List.getD_eq_getElem?_getD, List.getElem?_map]
  cases p[i]? <;> rfl
theorem nz_set (p : List Nat) (i x : Nat) : (nz p).set i (x : Int) = nz (p.set i x) := by simp [nz, List.map_set]
theorem swp_len (p : List Nat) (i j : Nat) : (swp p i j).length = p.length := by simp [swp]
theorem rv_len (off m : Nat) : ∀ (t : Nat) (p : List Nat), (rv off m t p).length = p.length
  | 0, _ => rfl
  | t + 1, p => by rw [rv, swp_len, rv_len off m t p]
end Go.Proofs.YbulkbhcsDoor
