import Derived.Test.YbulkbhcsDoorTake
namespace Go.Proofs.YbulkbhcsDoor
open Go.RowKit
theorem eqf56 (d : Nat) (w : World) : (Op.equalIn (d + 1) 56 .nilFunc .nilFunc).run Ybad.prog w = .ok true w := by
  simp [Op.equalIn, run_underlying Ybad.underlying56]
theorem eqf54 (d : Nat) (w : World) : (Op.equalIn (d + 1) 54 .nilFunc .nilFunc).run Ybad.prog w = .ok true w := by
  simp [Op.equalIn, run_underlying Ybad.underlying54]
theorem eqf55 (d : Nat) (w : World) : (Op.equalIn (d + 1) 55 .nilFunc .nilFunc).run Ybad.prog w = .ok true w := by
  simp [Op.equalIn, run_underlying Ybad.underlying55]
theorem eqf50 (d l : Nat) (w : World) : (Op.equalIn (d + 1) 50 (.func (.yield l) #[] #[]) .nilFunc).run Ybad.prog w = .ok false w := by
  simp [Op.equalIn, run_underlying Ybad.underlying50]
theorem eql56 (w : World) : (binOp .eql 56 .nilFunc .nilFunc).run Ybad.prog w = .ok (.bool true) w := by
  have h : (Op.equal 56 .nilFunc .nilFunc).run Ybad.prog w = .ok true w := eqf56 9999 w
  show ((do pure (Value.bool (← Op.equal 56 .nilFunc .nilFunc)) : Sem Value)).run Ybad.prog w = _
  simp [h]
theorem neq54 (w : World) : (binOp .neq 54 .nilFunc .nilFunc).run Ybad.prog w = .ok (.bool false) w := by
  have h : (Op.equal 54 .nilFunc .nilFunc).run Ybad.prog w = .ok true w := eqf54 9999 w
  show ((do pure (Value.bool (!(← Op.equal 54 .nilFunc .nilFunc))) : Sem Value)).run Ybad.prog w = _
  simp [h]
theorem neq55 (w : World) : (binOp .neq 55 .nilFunc .nilFunc).run Ybad.prog w = .ok (.bool false) w := by
  have h : (Op.equal 55 .nilFunc .nilFunc).run Ybad.prog w = .ok true w := eqf55 9999 w
  show ((do pure (Value.bool (!(← Op.equal 55 .nilFunc .nilFunc))) : Sem Value)).run Ybad.prog w = _
  simp [h]
theorem neq50 (l : Nat) (w : World) : (binOp .neq 50 (.func (.yield l) #[] #[]) .nilFunc).run Ybad.prog w = .ok (.bool true) w := by
  have h : (Op.equal 50 (.func (.yield l) #[] #[]) .nilFunc).run Ybad.prog w = .ok false w := eqf50 9999 l w
  show ((do pure (Value.bool (!(← Op.equal 50 (.func (.yield l) #[] #[]) .nilFunc))) : Sem Value)).run Ybad.prog w = _
  simp [h]
set_option maxHeartbeats 1000000 in
set_option maxRecDepth 100000 in
theorem steps_ok (w : World) (B4 B29 : Nat) (t : Int) (h1 : w.cell? ⟨B4, 3, none⟩ = some .nilFunc) (h2 : w.cell? ⟨B29, 0, none⟩ = some (.int .i64 t)) :
    Calls Ybad.prog 32 #[.pointer (some ⟨B4, 0, none⟩), .pointer (some ⟨B29, 0, none⟩)] w fun e w' => e = .returned (.int .i64 t) ∧ w' = w := by
  have he := eql56
  go_enter Ybad.func32, Ybad.ntmps32
  go_wp2_with fail
  go_ret
  exact ⟨rfl, rfl⟩
end Go.Proofs.YbulkbhcsDoor
