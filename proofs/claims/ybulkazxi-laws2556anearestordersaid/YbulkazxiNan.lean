/-
  zzs2556anan, math.NaN, math.IsNaN; a distance as the ranking function gives it.
-/
import Derived.Test.YbulkazxiLeaf
import Derived.Laws.Externs
namespace Go.Proofs.Ybulkazxi
open Go.RowKit
attribute [local go_sem] run_store_float

/-- To this entry the ranking function gives a NaN. -/
def En.nan (e : En) : Bool := e.d % 4 == 3

def NAN : Nat := 9221120237041090561

/-- What the ranking function gives. -/
def En.key (e : En) : Nat := if e.nan then NAN else fl e.d

theorem nan_read : Ieee.double.read NAN = .nan false 2251799813685249 := by decide +kernel

set_option maxHeartbeats 400000 in
theorem nan_any (e : En) (w : World) :
    Calls Yba.prog 13 #[.agg #[.int .i8 e.x, .int .i8 e.y, .int .u8 e.wd, .int .u8 e.ht, .int .i8 e.d]] w fun r w' => r = .returned (.bool e.nan) ∧ Below w.heap.size w w' := by
  go_enter Yba.func13, Yba.ntmps13
  go_wp2
  go_ret
  exact ⟨rfl, (Below.refl _ w).alloc (Nat.le_refl _) _⟩

set_option maxHeartbeats 400000 in
theorem mathNaN_any (w : World) : Calls Yba.prog 14 #[] w fun r w' => r = .returned (.float .f64 NAN) ∧ w' = w := by
  have hl : ∀ wx, (callFunc 26 #[.int .u64 9221120237041090561]).run Yba.prog wx = .ok (.value (.float .f64 NAN)) wx := fun wx => by
    rw [run_callFunc_extern (P := Yba.prog) Yba.func26 (by kernel_rfl) (by kernel_rfl) (by kernel_rfl) (e := Extern.MathFloatBits.float64frombits) (by kernel_rfl)]
    rfl
  go_enter Yba.func14, Yba.ntmps14
  go_wp2
  go_ret
  exact ⟨rfl, rfl⟩

set_option maxHeartbeats 400000 in
theorem isNaN_any (x : Nat) (w : World) : Calls Yba.prog 37 #[.float .f64 x] w fun r w' => r = .returned (.bool (!feq x x)) ∧ w' = w := by
  go_enter Yba.func37, Yba.ntmps37
  go_wp2
  go_ret
  exact ⟨rfl, rfl⟩

end Go.Proofs.Ybulkazxi
