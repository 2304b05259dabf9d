/-
  '==' of a function value and nil.
-/
import Derived.Test.YbulkazxiState
namespace Go.Proofs.Ybulkazxi
open Go.RowKit
theorem func_eqIn (d : Nat) (f : Fn) (a b : Array Value) (w : World) : (Op.equalIn (d + 1) 77 (.func f a b) .nilFunc).run Yba.prog w = .ok false w := by
  simp [Op.equalIn, run_underlying Yba.underlying77]
theorem nil_eqIn (d : Nat) (w : World) : (Op.equalIn (d + 1) 77 .nilFunc .nilFunc).run Yba.prog w = .ok true w := by
  simp [Op.equalIn, run_underlying Yba.underlying77]
theorem func_eq_nil (f : Fn) (a b : Array Value) (w : World) : (binOp .eql 77 (.func f a b) .nilFunc).run Yba.prog w = .ok (.bool false) w := by
  have h : (Op.equal 77 (.func f a b) .nilFunc).run Yba.prog w = .ok false w := func_eqIn 9999 f a b w
  simp only [binOp]
  simp [h]
theorem nil_eq_nil (w : World) : (binOp .eql 77 .nilFunc .nilFunc).run Yba.prog w = .ok (.bool true) w := by
  have h : (Op.equal 77 .nilFunc .nilFunc).run Yba.prog w = .ok true w := nil_eqIn 9999 w
  simp only [binOp]
  simp [h]
end Go.Proofs.Ybulkazxi
