/-
  THE PLAIN LAW of floats that are small whole numbers: no Go in sight.
-/
import Derived.Test.YbulkazxiRank
namespace Go.Proofs.Ybulkazxi
open Go.RowKit

/-- The float of a whole number. -/
def fl (n : Int) : Nat := floatOfInt .f64 n

theorem fl_eq (n : Int) : fl n = Ieee.double.nearest (n < 0) n.natAbs 0 := rfl

theorem log2_mul_pow (N p : Nat) (hN : 0 < N) : (N * 2 ^ p).log2 = N.log2 + p := by
  induction p with
  | zero => simp
  | succ p ih =>
    rw [Nat.pow_succ, ← Nat.mul_assoc, Nat.mul_comm _ 2, Nat.log2_two_mul (Nat.ne_of_gt (Nat.mul_pos hN (Nat.two_pow_pos p))), ih]
    omega

theorem cut_exact (way : Ieee.Toward) (neg : Bool) (a d : Nat) (hw : way = .even) (ha : 0 < a) : way.cut neg (a * 2 ^ d) d = a := by
  subst hw
  unfold Ieee.Toward.cut
  have hl : (a * 2 ^ d).log2 = a.log2 + d := log2_mul_pow a d ha
  have hm : min d ((a * 2 ^ d).log2 + 2) = d := by omega
  simp only [hm]
  have hg : 1 <<< d = 2 ^ d := by rw [Nat.shiftLeft_eq]; simp
  rw [hg, Nat.mul_div_cancel _ (Nat.two_pow_pos d), Nat.mul_mod_left]
  have h0 := Nat.two_pow_pos d
  have e1 : decide (2 ^ d < 2 * 0) = false := by simp
  have e2 : (2 ^ d == 2 * 0) = false := by
    simp
  simp [e2]

/-- The rung of a whole number N, 1 ≤ N < 2^53. -/
def rungOf (N : Nat) : Nat := (1022 + N.log2) * 2 ^ 52 + N * 2 ^ (52 - N.log2)

theorem near_val (neg : Bool) (N p : Nat) (h1 : 0 < N) (h2 : N < 2 ^ 53) : Ieee.double.nearest neg (N * 2 ^ p) (-(p : Int)) = Ieee.double.word neg (min (rungOf N) Ieee.double.infRung) := by
  have hL : N.log2 ≤ 52 := by
    have := (Nat.log2_lt (Nat.ne_of_gt h1)).2 h2
    omega
  have hpos : N * 2 ^ p ≠ 0 := Nat.ne_of_gt (Nat.mul_pos h1 (Nat.two_pow_pos p))
  have hlp : Ieee.double.leastPlace = -1074 := by decide
  have hfb : (Ieee.double.fractionBits : Int) = 52 := rfl
  have hbin : Ieee.double.binade = 2 ^ 52 := rfl
  unfold Ieee.Format.nearest
  rw [if_neg hpos]
  simp only
  rw [log2_mul_pow N p h1, hlp, hfb, hbin]
  have hlast : max (-(p : Int) + ((N.log2 + p : Nat) : Int) - 52) (-1074) = (N.log2 : Int) - 52 := by omega
  rw [hlast]
  have hE : ((N.log2 : Int) - 52 - -1074).toNat = 1022 + N.log2 := by omega
  rw [hE]
  have hk : Ieee.Toward.even.cut neg ((N * 2 ^ p) <<< (-(p : Int) - ((N.log2 : Int) - 52)).toNat) (((N.log2 : Int) - 52) - -(p : Int)).toNat = N * 2 ^ (52 - N.log2) := by
    by_cases hc : p + N.log2 ≤ 52
    · have e1 : (-(p : Int) - ((N.log2 : Int) - 52)).toNat = 52 - N.log2 - p := by omega
      have e2 : (((N.log2 : Int) - 52) - -(p : Int)).toNat = 0 := by omega
      rw [e1, e2, Nat.shiftLeft_eq, Nat.mul_assoc, ← Nat.pow_add]
      have e3 : p + (52 - N.log2 - p) = 52 - N.log2 := by omega
      rw [e3]
      have := cut_exact .even neg (N * 2 ^ (52 - N.log2)) 0 rfl (Nat.mul_pos h1 (Nat.two_pow_pos _))
      simpa using this
    · have e1 : (-(p : Int) - ((N.log2 : Int) - 52)).toNat = 0 := by omega
      have e2 : (((N.log2 : Int) - 52) - -(p : Int)).toNat = p - (52 - N.log2) := by omega
      rw [e1, e2, Nat.shiftLeft_eq, Nat.pow_zero, Nat.mul_one]
      have e3 : N * 2 ^ p = N * 2 ^ (52 - N.log2) * 2 ^ (p - (52 - N.log2)) := by
        rw [Nat.mul_assoc, ← Nat.pow_add]
        congr 2
        omega
      rw [e3]
      exact cut_exact .even neg _ _ rfl (Nat.mul_pos h1 (Nat.two_pow_pos _))
  rw [hk]
  rfl

theorem rung_bd (N : Nat) (h1 : 0 < N) (h2 : N < 2 ^ 53) : N.log2 ≤ 52 ∧ 2 ^ 52 ≤ N * 2 ^ (52 - N.log2) ∧ N * 2 ^ (52 - N.log2) < 2 ^ 53 := by
  have hne : N ≠ 0 := Nat.ne_of_gt h1
  have hL : N.log2 ≤ 52 := by
    have := (Nat.log2_lt hne).2 h2
    omega
  refine ⟨hL, ?_, ?_⟩
  · have := Nat.log2_self_le hne
    calc 2 ^ 52 = 2 ^ N.log2 * 2 ^ (52 - N.log2) := by rw [← Nat.pow_add]; congr 1; omega
      _ ≤ N * 2 ^ (52 - N.log2) := Nat.mul_le_mul_right _ this
  · have := Nat.lt_log2_self (n := N)
    calc N * 2 ^ (52 - N.log2) < 2 ^ (N.log2 + 1) * 2 ^ (52 - N.log2) := Nat.mul_lt_mul_of_pos_right this (Nat.two_pow_pos _)
      _ = 2 ^ 53 := by rw [← Nat.pow_add]; congr 1; omega

theorem rung_lt (N : Nat) (h1 : 0 < N) (h2 : N < 2 ^ 53) : rungOf N < Ieee.double.infRung := by
  obtain ⟨hL, _, hb⟩ := rung_bd N h1 h2
  have hi : Ieee.double.infRung = 2047 * 2 ^ 52 := by decide
  rw [hi]
  unfold rungOf
  have : (1022 + N.log2) * 2 ^ 52 ≤ 1074 * 2 ^ 52 := Nat.mul_le_mul_right _ (by omega)
  omega

theorem near_rung (neg : Bool) (N p : Nat) (h1 : 0 < N) (h2 : N < 2 ^ 53) : Ieee.double.nearest neg (N * 2 ^ p) (-(p : Int)) = Ieee.double.word neg (rungOf N) := by
  rw [near_val neg N p h1 h2, Nat.min_eq_left (Nat.le_of_lt (rung_lt N h1 h2))]

theorem fl_word (n : Int) (h0 : n ≠ 0) (h : n.natAbs < 2 ^ 53) : fl n = Ieee.double.word (n < 0) (rungOf n.natAbs) := by
  rw [fl_eq]
  have := near_rung (n < 0) n.natAbs 0 (by omega) h
  simpa using this

theorem fl_zero : fl 0 = 0 := by decide +kernel

/-- What a rung below infinity reads as. -/
theorem read_word (neg : Bool) (r : Nat) (h1 : 2 ^ 52 ≤ r) (h2 : r < Ieee.double.infRung) :
    Ieee.double.read (Ieee.double.word neg r) = .number neg (2 ^ 52 + r % 2 ^ 52) (-1074 + ((r / 2 ^ 52 - 1 : Nat) : Int)) := by
  have hi : Ieee.double.infRung = 2047 * 2 ^ 52 := by decide
  have hs : Ieee.double.signWeight = 2 ^ 63 := by decide
  have hb : Ieee.double.binade = 2 ^ 52 := rfl
  have hlp : Ieee.double.leastPlace = -1074 := by decide
  have hr : r < 2 ^ 63 := by rw [hi] at h2; omega
  have hd : Ieee.double.word neg r / 2 ^ 63 % 2 = if neg then 1 else 0 := by
    unfold Ieee.Format.word
    rw [hs]
    cases neg
    · simp; omega
    · simp; omega
  have hm : Ieee.double.word neg r % 2 ^ 63 = r := by
    unfold Ieee.Format.word
    rw [hs]
    cases neg
    · simp; omega
    · simp; omega
  unfold Ieee.Format.read
  simp only
  rw [hs, hd, hm, hb, hlp, if_neg (by omega), if_pos h2]
  cases neg <;> rfl

theorem read_fl (n : Int) (h0 : n ≠ 0) (h : n.natAbs < 2 ^ 53) : Ieee.double.read (fl n) = .number (n < 0) (n.natAbs * 2 ^ (52 - n.natAbs.log2)) ((n.natAbs.log2 : Int) - 52) := by
  obtain ⟨hL, hlo, hhi⟩ := rung_bd n.natAbs (by omega) h
  have hlt := rung_lt n.natAbs (by omega) h
  rw [fl_word n h0 h, read_word _ _ ?_ hlt]
  · have e1 : rungOf n.natAbs / 2 ^ 52 = 1023 + n.natAbs.log2 := by unfold rungOf; omega
    have e2 : rungOf n.natAbs % 2 ^ 52 = n.natAbs * 2 ^ (52 - n.natAbs.log2) - 2 ^ 52 := by unfold rungOf; omega
    have f1 : 2 ^ 52 + (n.natAbs * 2 ^ (52 - n.natAbs.log2) - 2 ^ 52) = n.natAbs * 2 ^ (52 - n.natAbs.log2) := by omega
    have f2 : (-1074 : Int) + ((1023 + n.natAbs.log2 - 1 : Nat) : Int) = (n.natAbs.log2 : Int) - 52 := by omega
    rw [e1, e2, f1, f2]
  · unfold rungOf
    have : 1022 * 2 ^ 52 ≤ (1022 + n.natAbs.log2) * 2 ^ 52 := Nat.mul_le_mul_right _ (by omega)
    omega

theorem read_zero : Ieee.double.read 0 = .number false 0 (-1074) := by decide +kernel

theorem fin_fl (n : Int) (h : n.natAbs < 2 ^ 53) : fin (fl n) = true := by
  by_cases h0 : n = 0
  · subst h0; rw [fl_zero]; decide +kernel
  · unfold fin; rw [read_fl n h0 h]

/-- The least place, kept under a name. -/
def EX : Nat := 1074

theorem fv_fl (n : Int) (h : n.natAbs < 2 ^ 53) : fv (fl n) = n * 2 ^ EX := by
  by_cases h0 : n = 0
  · subst h0; rw [fl_zero]; unfold fv; rw [read_zero]; simp [Ieee.signed]
  · obtain ⟨hL, _, _⟩ := rung_bd n.natAbs (by omega) h
    have hEX : EX = 1074 := rfl
    unfold fv
    rw [read_fl n h0 h]
    simp only
    have e : ((n.natAbs.log2 : Int) - 52 + 1074).toNat = (EX - 52) + n.natAbs.log2 := by omega
    rw [e]
    have e2 : (n.natAbs * 2 ^ (52 - n.natAbs.log2)) <<< ((EX - 52) + n.natAbs.log2) = n.natAbs * 2 ^ EX := by
      rw [Nat.shiftLeft_eq, Nat.mul_assoc, ← Nat.pow_add]
      have : 52 - n.natAbs.log2 + (EX - 52 + n.natAbs.log2) = EX := by omega
      rw [this]
    unfold Ieee.signed
    rw [e2]
    by_cases hn : n < 0
    · simp only [hn, decide_true, if_true]
      rw [Int.natCast_mul]
      have : (n.natAbs : Int) = -n := by omega
      rw [this, Int.natCast_pow, Int.neg_mul, Int.neg_neg]
      rfl
    · simp only [hn, decide_false, Bool.false_eq_true, if_false]
      rw [Int.natCast_mul]
      have : (n.natAbs : Int) = n := by omega
      rw [this, Int.natCast_pow]
      rfl

end Go.Proofs.Ybulkazxi
