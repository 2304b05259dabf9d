/-
  THE PLAIN LAWS on masks: no Go in sight.
-/
import Derived.Test.YbulkazveMask
namespace Go.Proofs.Ybulkazve
open Go.RowKit

theorem max_all : ∀ k : Fin 65, wrap64 (wrap64 (2 ^ k.val) - 1) = maskI k.val := by decide +kernel
theorem max_mask (x : Nat) : wrap64 (wrap64 (2 ^ min x 64) - 1) = maskI x := by
  by_cases h : x ≤ 64
  · rw [Nat.min_eq_left h]
    exact max_all ⟨x, by omega⟩
  · rw [Nat.min_eq_right (by omega)]
    have e : maskI x = maskI 64 := by unfold maskI; rw [if_neg (by omega), if_neg (by omega)]
    rw [e]
    exact max_all ⟨64, by omega⟩

theorem top_all : ∀ k : Fin 64, (9223372036854775807 : Int) / 2 ^ (63 - k.val) = maskI k.val := by decide +kernel
theorem top_zero : (9223372036854775807 : Int) / 2 ^ 64 = 0 := by decide +kernel

theorem u64_wrap (x : Int) : IntKind.u64.wrap x = x % 18446744073709551616 := by
  simp [IntKind.wrap, IntKind.bits, IntKind.signed]

theorem top_small (tb nd sq : Nat) (h : tb + nd + sq ≤ 63) :
    (9223372036854775807 : Int) / 2 ^ min (IntKind.u64.wrap (IntKind.u64.wrap (63 - (tb : Int)) - ((nd : Int) + (sq : Int)))).toNat 64 = maskI (tb + nd + sq) := by
  have e : (IntKind.u64.wrap (IntKind.u64.wrap (63 - (tb : Int)) - ((nd : Int) + (sq : Int)))).toNat = 63 - (tb + nd + sq) := by
    rw [u64_wrap, u64_wrap]
    omega
  rw [e, Nat.min_eq_left (by omega)]
  exact top_all ⟨tb + nd + sq, by omega⟩

theorem top_large (tb nd sq : Nat) (h : 63 < tb + nd + sq) (h2 : tb + nd + sq ≤ 1000000) :
    (9223372036854775807 : Int) / 2 ^ min (IntKind.u64.wrap (IntKind.u64.wrap (63 - (tb : Int)) - ((nd : Int) + (sq : Int)))).toNat 64 = 0 := by
  have e : 64 ≤ (IntKind.u64.wrap (IntKind.u64.wrap (63 - (tb : Int)) - ((nd : Int) + (sq : Int)))).toNat := by
    rw [u64_wrap, u64_wrap]
    omega
  rw [Nat.min_eq_right e]
  exact top_zero

end Go.Proofs.Ybulkazve
