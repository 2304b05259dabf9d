/-
  THE PLAIN LAW of sums, differences and products of floats that are small whole numbers.
-/
import Derived.Test.YbulkazxiFloat
namespace Go.Proofs.Ybulkazxi
open Go.RowKit

theorem signed_eq (s : Bool) (m up : Nat) : Ieee.signed s m up = (if s then -1 else 1) * ((m * 2 ^ up : Nat) : Int) := by
  unfold Ieee.signed
  rw [Nat.shiftLeft_eq]
  cases s <;> simp

theorem read_any (a : Int) (h : a.natAbs < 2 ^ 53) : ∃ s m i, Ieee.double.read (fl a) = .number s m i ∧ -1074 ≤ i ∧ i ≤ 0 ∧ (∀ base : Int, base ≤ i → Ieee.signed s m (i - base).toNat = a * 2 ^ (-base).toNat) ∧ (s = true ↔ a < 0) := by
  by_cases h0 : a = 0
  · subst h0
    refine ⟨false, 0, -1074, by rw [fl_zero]; exact read_zero, by omega, by omega, fun base _ => by simp [Ieee.signed], by simp⟩
  · obtain ⟨hL, _, _⟩ := rung_bd a.natAbs (by omega) h
    refine ⟨decide (a < 0), _, _, read_fl a h0 h, by omega, by omega, fun base hb => ?_, by simp⟩
    rw [signed_eq]
    have e : a.natAbs * 2 ^ (52 - a.natAbs.log2) * 2 ^ ((a.natAbs.log2 : Int) - 52 - base).toNat = a.natAbs * 2 ^ (-base).toNat := by
      rw [Nat.mul_assoc, ← Nat.pow_add]
      congr 2
      omega
    rw [e, Int.natCast_mul]
    by_cases hn : a < 0
    · have e3 : (a.natAbs : Int) = -a := by omega
      simp only [hn, decide_true, if_true]
      rw [e3, Int.natCast_pow, Int.neg_mul, Int.neg_mul, Int.one_mul, Int.neg_neg]
      rfl
    · have e3 : (a.natAbs : Int) = a := by omega
      simp only [hn, decide_false, Bool.false_eq_true, if_false]
      rw [e3, Int.natCast_pow, Int.one_mul]
      rfl

theorem natAbs_mul_pow (a : Int) (p : Nat) : (a * 2 ^ p).natAbs = a.natAbs * 2 ^ p := by
  rw [Int.natAbs_mul, Int.natAbs_pow]
  rfl

theorem word_zero : Ieee.double.word false 0 = 0 := rfl

/-- What the exact result c * 2^p at place -p is written as. -/
theorem write_val (c : Int) (p : Nat) (sg : Bool) (hc : c.natAbs < 2 ^ 53) (hs : c = 0 → sg = false) (hs2 : c ≠ 0 → sg = decide (c < 0)) :
    Ieee.double.write (.number sg (c * 2 ^ p).natAbs (-(p : Int))) = fl c := by
  show Ieee.double.nearest sg (c * 2 ^ p).natAbs (-(p : Int)) = fl c
  rw [natAbs_mul_pow]
  by_cases h0 : c = 0
  · subst h0
    rw [hs rfl, fl_zero]
    simp [Ieee.Format.nearest, Ieee.Format.word]
  · rw [near_rung sg c.natAbs p (by omega) hc, fl_word c h0 hc, hs2 h0]

theorem pow_pos_int (p : Nat) : (0 : Int) < 2 ^ p := Int.pow_pos (by decide)
theorem mul_pow_eq_zero (c : Int) (p : Nat) : c * 2 ^ p = 0 ↔ c = 0 := by
  have := pow_pos_int p
  constructor
  · intro h
    rcases Int.mul_eq_zero.1 h with h | h
    · exact h
    · omega
  · intro h; rw [h, Int.zero_mul]
theorem mul_pow_neg (c : Int) (p : Nat) : c * 2 ^ p < 0 ↔ c < 0 := by
  have hp := pow_pos_int p
  constructor
  · intro h
    by_cases hc : c < 0
    · exact hc
    · have := Int.mul_nonneg (show 0 ≤ c by omega) (Int.le_of_lt hp)
      omega
  · intro h
    have := Int.mul_lt_mul_of_pos_right h hp
    rwa [Int.zero_mul] at this

theorem add_fl (a b : Int) (ha : a.natAbs < 2 ^ 53) (hb : b.natAbs < 2 ^ 53) (hc : (a + b).natAbs < 2 ^ 53) : Ieee.double.add (fl a) (fl b) = some (fl (a + b)) := by
  obtain ⟨s, m, i, r1, p1, q1, v1, g1⟩ := read_any a ha
  obtain ⟨t, n, j, r2, p2, q2, v2, g2⟩ := read_any b hb
  unfold Ieee.Format.add
  rw [r1, r2]
  simp only [Ieee.Datum.sum, Option.map_some]
  rw [v1 _ (Int.min_le_left _ _), v2 _ (Int.min_le_right _ _), ← Int.add_mul]
  have hbase : min i j = -(((-(min i j)).toNat : Nat) : Int) := by omega
  generalize (-(min i j)).toNat = p at *
  rw [hbase]
  congr 1
  apply write_val _ _ _ hc
  · intro h
    rw [if_pos ((mul_pow_eq_zero _ _).2 h)]
    have hss : s = true → ¬ t = true := fun hs ht => by
      have := g1.1 hs
      have := g2.1 ht
      omega
    cases s <;> cases t <;> simp_all
  · intro h
    rw [if_neg (fun e => h ((mul_pow_eq_zero _ _).1 e))]
    exact decide_eq_decide.2 (mul_pow_neg _ _)

theorem sub_fl (a b : Int) (ha : a.natAbs < 2 ^ 53) (hb : b.natAbs < 2 ^ 53) (hc : (a - b).natAbs < 2 ^ 53) : Ieee.double.sub (fl a) (fl b) = some (fl (a - b)) := by
  obtain ⟨s, m, i, r1, p1, q1, v1, g1⟩ := read_any a ha
  obtain ⟨t, n, j, r2, p2, q2, v2, g2⟩ := read_any b hb
  have v2' : ∀ base : Int, base ≤ j → Ieee.signed (!t) n (j - base).toNat = -(b * 2 ^ (-base).toNat) := fun base h => by
    rw [← v2 base h, signed_eq, signed_eq]
    cases t <;> simp
  unfold Ieee.Format.sub
  rw [r1, r2]
  simp only [Ieee.Datum.opposite, Ieee.Datum.sum, Option.map_some]
  rw [v1 _ (Int.min_le_left _ _), v2' _ (Int.min_le_right _ _)]
  have hbase : min i j = -(((-(min i j)).toNat : Nat) : Int) := by omega
  generalize (-(min i j)).toNat = p at *
  have hab : a * 2 ^ p + -(b * 2 ^ p) = (a - b) * 2 ^ p := by rw [Int.sub_mul]; omega
  rw [hbase, hab]
  congr 1
  apply write_val _ _ _ hc
  · intro h
    rw [if_pos ((mul_pow_eq_zero _ _).2 h)]
    have hss : s = true → t = true := fun hs => by
      have := g1.1 hs
      exact g2.2 (by omega)
    cases s <;> cases t <;> simp_all
  · intro h
    rw [if_neg (fun e => h ((mul_pow_eq_zero _ _).1 e))]
    exact decide_eq_decide.2 (mul_pow_neg _ _)

end Go.Proofs.Ybulkazxi
