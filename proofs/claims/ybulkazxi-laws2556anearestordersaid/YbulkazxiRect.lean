/-
  zzs2556arect: an entry's rectangle.
-/
import Derived.Test.YbulkazxiArith
import Derived.Test.YbulkazxiMem
namespace Go.Proofs.Ybulkazxi
open Go.RowKit
attribute [local go_sem] run_store_float

/-- An entry. -/
structure En where
  x : Int
  y : Int
  wd : Int
  ht : Int
  d : Int

def En.ok (e : En) : Prop := (-128 ≤ e.x ∧ e.x ≤ 127) ∧ (-128 ≤ e.y ∧ e.y ≤ 127) ∧ (0 ≤ e.wd ∧ e.wd ≤ 255) ∧ (0 ≤ e.ht ∧ e.ht ≤ 255) ∧ (-128 ≤ e.d ∧ e.d ≤ 127)

set_option maxHeartbeats 400000 in
theorem rect_any (e : En) (w : World) (he : e.ok) :
    Calls Yba.prog 10 #[.agg #[.int .i8 e.x, .int .i8 e.y, .int .u8 e.wd, .int .u8 e.ht, .int .i8 e.d]] w fun r w' =>
      r = .returned (.agg #[.float .f64 (fl e.x), .float .f64 (fl e.y), .float .f64 (fl (e.x + e.wd)), .float .f64 (fl (e.y + e.ht))]) ∧ Below w.heap.size w w' := by
  obtain ⟨hx, hy, hw, hh, hd⟩ := he
  have a1 := fun wx => run_float_arith (P := Yba.prog) wx .add 42 .f64 (floatOfInt .f64 e.x) (floatOfInt .f64 e.wd) _ (add_fl e.x e.wd (by omega) (by omega) (by omega))
  have a2 := fun wx => run_float_arith (P := Yba.prog) wx .add 42 .f64 (floatOfInt .f64 e.y) (floatOfInt .f64 e.ht) _ (add_fl e.y e.ht (by omega) (by omega) (by omega))
  clear hx hy hw hh hd
  go_enter Yba.func10, Yba.ntmps10
  go_wp2
  refine bodyPost_ret (v := .agg #[.float .f64 (fl e.x), .float .f64 (fl e.y), .float .f64 (fl (e.x + e.wd)), .float .f64 (fl (e.y + e.ht))]) ?_ rfl ⟨rfl, ?_⟩
  · simp [results, Yba.results10, go_sem]
    exact ⟨rfl, rfl⟩
  · exact ((Below.refl _ w).alloc (Nat.le_refl _) _).alloc (by simp) _

end Go.Proofs.Ybulkazxi
