/-
  THE PLAIN LAWS on masks, shifts and fields: no Go in sight.
-/
import Derived.Test.YbulkazveFmtMake
namespace Go.Proofs.YbulkazveFmt
open Go.RowKit

theorem max_all : ∀ k : Fin 64, wrap64 (wrap64 (2 ^ k.val) - 1) = 2 ^ k.val - 1 := by decide +kernel
theorem maxOf_pow (x : Nat) (h : x ≤ 63) : maxOf x = 2 ^ x - 1 := by
  unfold maxOf
  rw [Nat.min_eq_left (by omega)]
  exact max_all ⟨x, by omega⟩

theorem top_all : ∀ k : Fin 64, (9223372036854775807 : Int) / 2 ^ (63 - k.val) = 2 ^ k.val - 1 := by decide +kernel
theorem topOf_pow (tb nd sq : Nat) (h : tb + nd + sq ≤ 63) : topOf tb nd sq = 2 ^ (tb + nd + sq) - 1 := by
  unfold topOf
  have e : (IntKind.u64.wrap (IntKind.u64.wrap (63 - (tb : Int)) - ((nd : Int) + (sq : Int)))).toNat = 63 - (tb + nd + sq) := by
    rw [u64_wrap, u64_wrap]
    omega
  rw [e, Nat.min_eq_left (by omega)]
  exact top_all ⟨tb + nd + sq, by omega⟩

theorem lawMax_all : ∀ k : Fin 64, wrap64 (IntKind.u64.wrap (IntKind.u64.wrap (2 ^ k.val) - 1)) = 2 ^ k.val - 1 := by decide +kernel
theorem lawMax (tb nd sq : Nat) (h : tb + nd + sq ≤ 63) : wrap64 (IntKind.u64.wrap (IntKind.u64.wrap (2 ^ (tb + nd + sq)) - 1)) = topOf tb nd sq := by
  rw [topOf_pow tb nd sq h]
  exact lawMax_all ⟨tb + nd + sq, by omega⟩

theorem wraps_i64 (n : Int) (h₀ : 0 ≤ n) (h₁ : n < 2 ^ 63) : IntKind.i64.wrap n = n := by rw [IntKind.wrap_i64]; omega

theorem and_mask (x : Int) (k : Nat) (hk : k ≤ 63) (h0 : 0 ≤ x) (h1 : x < 2 ^ 63) : bits .and .i64 x (2 ^ k - 1) = x % 2 ^ k :=
  bits_mask .i64 63 (by decide) wraps_i64 k hk x h0 h1

theorem pow_pos (k : Nat) : (0 : Int) < 2 ^ k := Int.pow_pos (by decide)

theorem div_lt63 (x : Int) (k : Nat) (h0 : 0 ≤ x) (h1 : x < 2 ^ 63) : 0 ≤ x / 2 ^ k ∧ x / 2 ^ k < 2 ^ 63 :=
  ⟨Int.ediv_nonneg h0 (Int.le_of_lt (pow_pos k)), Int.lt_of_le_of_lt (Int.ediv_le_self _ h0) h1⟩

theorem div_div (x : Int) (s n : Nat) : x / 2 ^ s / 2 ^ n = x / 2 ^ (n + s) := by
  rw [Int.ediv_ediv_of_nonneg (Int.le_of_lt (pow_pos s)), ← Int.pow_add, Nat.add_comm]

end Go.Proofs.YbulkazveFmt
