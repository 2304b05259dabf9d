/-
  '!=' of two rectangles whose floats are the same finite numbers.
-/
import Derived.Test.YbulkazxiWalk2
import Derived.Laws.StructEq
namespace Go.Proofs.Ybulkazxi
open Go.RowKit

theorem float_eqIn (d : Nat) (a b : Nat) (w : World) : (Op.equalIn (d + 1) 42 (.float .f64 a) (.float .f64 b)).run Yba.prog w = .ok (feq a b) w := by
  simp [Op.equalIn, run_underlying Yba.underlying42, feq, Op.floatEq]

theorem feq_self {a : Nat} (h : fin a = true) : feq a a = true := by rw [feq_fin h h]; simp

theorem point_eqIn (d : Nat) (a b : Nat) (ha : fin a = true) (hb : fin b = true) (w : World) : (Op.equalIn (d + 2) 44 (.agg #[.float .f64 a, .float .f64 b]) (.agg #[.float .f64 a, .float .f64 b])).run Yba.prog w = .ok true w := by
  simp [go_sem, float_eqIn, feq_self ha, feq_self hb]

theorem rect_neq (a b c d : Nat) (ha : fin a = true) (hb : fin b = true) (hc : fin c = true) (hd : fin d = true) (w : World) :
    (binOp .neq 46 (.agg #[.float .f64 a, .float .f64 b, .float .f64 c, .float .f64 d]) (.agg #[.float .f64 a, .float .f64 b, .float .f64 c, .float .f64 d])).run Yba.prog w = .ok (.bool false) w := by
  have h1 := fun w => point_eqIn 9997 a b ha hb w
  have h2 := fun w => point_eqIn 9997 c d hc hd w
  rw [run_neq_struct]
  simp [go_sem, h1, h2]

end Go.Proofs.Ybulkazxi
