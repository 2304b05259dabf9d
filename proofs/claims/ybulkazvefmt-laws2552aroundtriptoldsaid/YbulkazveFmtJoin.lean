/-
  THE PLAIN LAWS on joining three fields: no Go in sight.
-/
import Derived.Test.YbulkazveFmtPlain
namespace Go.Proofs.YbulkazveFmt
open Go.RowKit

theorem wraps_u64 (n : Int) (h₀ : 0 ≤ n) (h₁ : n < 2 ^ 64) : IntKind.u64.wrap n = n := by rw [u64_wrap]; omega

theorem umask_all : ∀ k : Fin 64, IntKind.u64.wrap (IntKind.u64.wrap (2 ^ k.val) - 1) = 2 ^ k.val - 1 := by decide +kernel
theorem umask (x : Int) (k : Nat) (hk : k ≤ 63) (h0 : 0 ≤ x) (h1 : x < 2 ^ 64) : bits .and .u64 x (IntKind.u64.wrap (IntKind.u64.wrap (2 ^ k) - 1)) = x % 2 ^ k := by
  rw [umask_all ⟨k, by omega⟩]
  exact bits_mask .u64 64 (by decide) wraps_u64 k (by omega) x h0 h1

theorem mul_lt {T A D : Int} (hT : 0 ≤ T) (hA : T < A) (hD : 0 < D) : 0 ≤ T * D ∧ T * D + D ≤ A * D := by
  refine ⟨Int.mul_nonneg hT (Int.le_of_lt hD), ?_⟩
  have h : (T + 1) * D ≤ A * D := Int.mul_le_mul_of_nonneg_right (by omega) (Int.le_of_lt hD)
  rw [Int.add_mul, Int.one_mul] at h
  exact h

theorem pow_add3 (tb nb sb : Nat) : (2 : Int) ^ (tb + nb + sb) = 2 ^ tb * 2 ^ (nb + sb) := by rw [← Int.pow_add, Nat.add_assoc]
theorem pow_add2 (nb sb : Nat) : (2 : Int) ^ (nb + sb) = 2 ^ nb * 2 ^ sb := Int.pow_add 2 nb sb
theorem pow_le63 (k : Nat) (h : k ≤ 63) : (2 : Int) ^ k ≤ 2 ^ 63 := by exact_mod_cast Nat.pow_le_pow_right (n := 2) (by decide) h

/-- The bounds of the joined number. -/
theorem join_bd (T N S : Int) (tb nb sb : Nat) (hT0 : 0 ≤ T) (hT : T < 2 ^ tb) (hN0 : 0 ≤ N) (hN : N < 2 ^ nb) (hS0 : 0 ≤ S) (hS : S < 2 ^ sb) :
    0 ≤ T * 2 ^ (nb + sb) ∧ 0 ≤ N * 2 ^ sb ∧ N * 2 ^ sb + 2 ^ sb ≤ 2 ^ (nb + sb) ∧ T * 2 ^ (nb + sb) + 2 ^ (nb + sb) ≤ 2 ^ (tb + nb + sb) ∧
    0 ≤ T * 2 ^ (nb + sb) + N * 2 ^ sb + S ∧ T * 2 ^ (nb + sb) + N * 2 ^ sb + S < 2 ^ (tb + nb + sb) := by
  have h1 := mul_lt hT0 hT (pow_pos (nb + sb))
  have h2 := mul_lt hN0 hN (pow_pos sb)
  rw [pow_add3 tb nb sb]
  rw [← pow_add2 nb sb] at h2
  have h3 := h1.1
  have h4 := h1.2
  have h5 := h2.1
  have h6 := h2.2
  exact ⟨h3, h5, h6, h4, by omega, by omega⟩

theorem join_eq (T N S : Int) (tb nb sb : Nat) (h63 : tb + nb + sb ≤ 63) (hT0 : 0 ≤ T) (hT : T < 2 ^ tb) (hN0 : 0 ≤ N) (hN : N < 2 ^ nb) (hS0 : 0 ≤ S) (hS : S < 2 ^ sb) :
    wrap64 (bits BinOp.or IntKind.u64 (bits BinOp.or IntKind.u64 (IntKind.u64.wrap (T * 2 ^ (nb + sb))) (IntKind.u64.wrap (N * 2 ^ sb))) S) = T * 2 ^ (nb + sb) + N * 2 ^ sb + S := by
  obtain ⟨b1, b2, b3, b4, b5, b6⟩ := join_bd T N S tb nb sb hT0 hT hN0 hN hS0 hS
  have b7 := pow_le63 _ h63
  have b8 : (2 : Int) ^ 63 < 2 ^ 64 := by decide
  have b9 := pow_pos sb
  have b10 := pow_pos (nb + sb)
  rw [wraps_u64 (T * 2 ^ (nb + sb)) b1 (by omega), wraps_u64 (N * 2 ^ sb) b2 (by omega)]
  rw [bits_join .u64 64 (by decide) wraps_u64 (nb + sb) _ _ b1 (Int.mul_emod_left _ _) (by omega) b2 (by omega) (by omega)]
  rw [bits_join .u64 64 (by decide) wraps_u64 sb _ _ (by omega) ?_ (by omega) hS0 hS (by omega)]
  · generalize T * 2 ^ (nb + sb) + N * 2 ^ sb + S = x at *
    unfold wrap64
    omega
  · rw [pow_add2 nb sb, ← Int.mul_assoc, ← Int.add_mul]
    exact Int.mul_emod_left _ _

theorem join_parts (T N S : Int) (nb sb : Nat) (hN0 : 0 ≤ N) (hN : N < 2 ^ nb) (hS0 : 0 ≤ S) (hS : S < 2 ^ sb) :
    (T * 2 ^ (nb + sb) + N * 2 ^ sb + S) % 2 ^ sb = S ∧ (T * 2 ^ (nb + sb) + N * 2 ^ sb + S) / 2 ^ sb % 2 ^ nb = N ∧ (T * 2 ^ (nb + sb) + N * 2 ^ sb + S) / 2 ^ (nb + sb) = T := by
  have e : T * 2 ^ (nb + sb) + N * 2 ^ sb + S = S + (N + T * 2 ^ nb) * 2 ^ sb := by
    rw [pow_add2 nb sb, ← Int.mul_assoc, Int.add_mul]
    omega
  have e1 : (S + (N + T * 2 ^ nb) * 2 ^ sb) / 2 ^ sb = N + T * 2 ^ nb := by
    rw [Int.add_mul_ediv_right _ _ (Int.ne_of_gt (pow_pos sb)), Int.ediv_eq_zero_of_lt hS0 hS]
    omega
  rw [e]
  refine ⟨?_, ?_, ?_⟩
  · rw [Int.add_mul_emod_self_right, Int.emod_eq_of_lt hS0 hS]
  · rw [e1, Int.add_mul_emod_self_right, Int.emod_eq_of_lt hN0 hN]
  · rw [← div_div, e1, Int.add_mul_ediv_right _ _ (Int.ne_of_gt (pow_pos nb)), Int.ediv_eq_zero_of_lt hN0 hN]
    omega

end Go.Proofs.YbulkazveFmt
