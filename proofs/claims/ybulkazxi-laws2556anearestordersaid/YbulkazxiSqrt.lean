/-
  THE PLAIN LAW of square roots of floats that are small whole numbers: never falling.
-/
import Derived.Test.YbulkazxiArith
namespace Go.Proofs.Ybulkazxi
open Go.RowKit

/-! ### The whole root -/
theorem rootFrom_ok (n : Nat) : ∀ (todo root : Nat), root * root ≤ n → n < (root + 2 ^ todo) * (root + 2 ^ todo) →
    Ieee.Datum.rootFrom n todo root * Ieee.Datum.rootFrom n todo root ≤ n ∧ n < (Ieee.Datum.rootFrom n todo root + 1) * (Ieee.Datum.rootFrom n todo root + 1) := by
  intro todo
  induction todo with
  | zero => intro root h1 h2; exact ⟨h1, by simpa [Ieee.Datum.rootFrom] using h2⟩
  | succ todo ih =>
    intro root h1 h2
    have hs : 1 <<< todo = 2 ^ todo := by rw [Nat.shiftLeft_eq, Nat.one_mul]
    simp only [Ieee.Datum.rootFrom, hs]
    by_cases h : (root + 2 ^ todo) * (root + 2 ^ todo) ≤ n
    · rw [if_pos h]
      refine ih _ h ?_
      have : root + 2 ^ todo + 2 ^ todo = root + 2 ^ (todo + 1) := by rw [Nat.pow_succ]; omega
      rw [this]; exact h2
    · rw [if_neg h]
      exact ih _ h1 (by omega)

def isq (n : Nat) : Nat := Ieee.Datum.rootFrom n (n.log2 / 2 + 1) 0

theorem isq_ok (n : Nat) : isq n * isq n ≤ n ∧ n < (isq n + 1) * (isq n + 1) := by
  unfold isq
  refine rootFrom_ok n _ 0 (by omega) ?_
  rw [Nat.zero_add, ← Nat.pow_add]
  by_cases h : n = 0
  · subst h; exact Nat.two_pow_pos _
  · have h1 := (Nat.log2_lt (n := n) (k := n.log2 + 1) h).1 (by omega)
    refine Nat.lt_of_lt_of_le h1 (Nat.pow_le_pow_right (by omega) (by omega))

theorem sq_lt {a b : Nat} (h : a * a < b * b) : a < b := by
  by_cases hc : a < b
  · exact hc
  · have := Nat.mul_le_mul (Nat.not_lt.1 hc) (Nat.not_lt.1 hc)
    omega

theorem isq_mono {m n : Nat} (h : m ≤ n) : isq m ≤ isq n := by
  have h1 := isq_ok m
  have h2 := isq_ok n
  have : isq m < isq n + 1 := sq_lt (by omega)
  omega

theorem isq_sq (a : Nat) : isq (a * a) = a := by
  have h := isq_ok (a * a)
  have h1 : a < isq (a * a) + 1 := sq_lt h.2
  have h2 : isq (a * a) ≤ a := by
    by_cases hc : isq (a * a) ≤ a
    · exact hc
    · have := Nat.mul_self_lt_mul_self (show a < isq (a * a) by omega)
      omega
  omega

/-- The root's digits and one more, that tells whether it is whole. -/
def rtM (n : Nat) : Nat := 2 * isq n + (isq n * isq n != n).toNat

theorem rtM_mono {m n : Nat} (h : m ≤ n) : rtM m ≤ rtM n := by
  have h1 := isq_mono h
  have b1 : (isq m * isq m != m).toNat ≤ 1 := Bool.toNat_le _
  unfold rtM
  by_cases he : isq m = isq n
  · rw [← he]
    have hm := isq_ok m
    by_cases hx : isq m * isq m = m
    · have : (isq m * isq m != m) = false := by simp [hx]
      rw [this]; simp
    · have hy : ¬ isq m * isq m = n := by omega
      have e1 : (isq m * isq m != m) = true := by simp [hx]
      have e2 : (isq m * isq m != n) = true := by simp [hy]
      rw [e1, e2]; exact Nat.le_refl _
  · omega

/-- Three digits off, to the nearest, between two to the even. -/
def cut8 (n : Nat) : Nat := Ieee.Toward.even.cut false n 3

theorem cut8_eq (n : Nat) (h : 2 ≤ n) : cut8 n = n / 8 + (decide (8 < 2 * (n % 8)) || (8 == 2 * (n % 8) && n / 8 % 2 == 1)).toNat := by
  have hl : 1 ≤ n.log2 := (Nat.le_log2 (by omega)).2 (by omega)
  unfold cut8 Ieee.Toward.cut
  have hm : min 3 (n.log2 + 2) = 3 := by omega
  simp only [hm]
  rfl

theorem cut8_bd (n : Nat) (h : 2 ≤ n) : n / 8 ≤ cut8 n ∧ cut8 n ≤ n / 8 + 1 := by
  rw [cut8_eq n h]
  have := Bool.toNat_le (decide (8 < 2 * (n % 8)) || (8 == 2 * (n % 8) && n / 8 % 2 == 1))
  omega

theorem cut8_mono {m n : Nat} (h2 : 2 ≤ m) (h : m ≤ n) : cut8 m ≤ cut8 n := by
  rw [cut8_eq m h2, cut8_eq n (by omega)]
  by_cases hq : m / 8 = n / 8
  · rw [hq]
    have hr : m % 8 ≤ n % 8 := by omega
    have : (decide (8 < 2 * (m % 8)) || (8 == 2 * (m % 8) && n / 8 % 2 == 1)).toNat ≤ (decide (8 < 2 * (n % 8)) || (8 == 2 * (n % 8) && n / 8 % 2 == 1)).toNat := by
      by_cases h1 : 8 < 2 * (n % 8)
      · simp [h1]; exact Bool.toNat_le _
      · have h3 : ¬ 8 < 2 * (m % 8) := by omega
        by_cases h4 : 8 = 2 * (m % 8)
        · have h5 : 8 = 2 * (n % 8) := by omega
          have e1 : m % 8 = n % 8 := by omega
          rw [e1]; exact Nat.le_refl _
        · have : (8 == 2 * (m % 8)) = false := by simp [h4]
          simp [h3, this]
    omega
  · have b := Bool.toNat_le (decide (8 < 2 * (m % 8)) || (8 == 2 * (m % 8) && m / 8 % 2 == 1))
    have : m / 8 ≤ n / 8 := Nat.div_le_div_right h
    omega

/-! ### The square root of a whole number -/
/-- The number under the root, with all its digits. -/
def radN (N : Nat) : Nat := N * 2 ^ (108 - 2 * (N.log2 / 2))
def rtRung (N : Nat) : Nat := (1022 + N.log2 / 2) * 2 ^ 52 + cut8 (rtM (radN N))

theorem rad_bd (N : Nat) (h1 : 0 < N) (h2 : N < 2 ^ 53) : 2 ^ 108 ≤ radN N ∧ radN N < 2 ^ 110 := by
  have hL : N.log2 ≤ 52 := by
    have := (Nat.log2_lt (Nat.ne_of_gt h1)).2 h2
    omega
  have hlo : 2 ^ N.log2 ≤ N := Nat.log2_self_le (Nat.ne_of_gt h1)
  have hhi : N < 2 ^ (N.log2 + 1) := Nat.lt_log2_self
  unfold radN
  constructor
  · have e : 2 ^ 108 = 2 ^ (2 * (N.log2 / 2)) * 2 ^ (108 - 2 * (N.log2 / 2)) := by rw [← Nat.pow_add]; congr 1; omega
    rw [e]
    exact Nat.mul_le_mul_right _ (Nat.le_trans (Nat.pow_le_pow_right (by omega) (by omega)) hlo)
  · have e : 2 ^ 110 = 2 ^ (2 * (N.log2 / 2) + 2) * 2 ^ (108 - 2 * (N.log2 / 2)) := by rw [← Nat.pow_add]; congr 1; omega
    rw [e]
    exact Nat.mul_lt_mul_of_pos_right (Nat.lt_of_lt_of_le hhi (Nat.pow_le_pow_right (by omega) (by omega))) (Nat.two_pow_pos _)

theorem rtM_bd (N : Nat) (h1 : 0 < N) (h2 : N < 2 ^ 53) : 2 ^ 55 ≤ rtM (radN N) ∧ rtM (radN N) < 2 ^ 56 := by
  obtain ⟨a, b⟩ := rad_bd N h1 h2
  have h := isq_ok (radN N)
  have e1 : 2 ^ 54 * 2 ^ 54 = 2 ^ 108 := by rw [← Nat.pow_add]
  have e2 : 2 ^ 55 * 2 ^ 55 = 2 ^ 110 := by rw [← Nat.pow_add]
  have l1 : 2 ^ 54 < isq (radN N) + 1 := sq_lt (by rw [e1]; omega)
  have l2 : isq (radN N) < 2 ^ 55 := sq_lt (by rw [e2]; omega)
  have := Bool.toNat_le (isq (radN N) * isq (radN N) != radN N)
  unfold rtM
  omega

theorem rtRung_bd (N : Nat) (h1 : 0 < N) (h2 : N < 2 ^ 53) : 2 ^ 52 ≤ cut8 (rtM (radN N)) ∧ cut8 (rtM (radN N)) ≤ 2 ^ 53 := by
  obtain ⟨a, b⟩ := rtM_bd N h1 h2
  have := cut8_bd (rtM (radN N)) (by omega)
  omega

theorem rtRung_lt (N : Nat) (h1 : 0 < N) (h2 : N < 2 ^ 53) : 2 ^ 52 ≤ rtRung N ∧ rtRung N < Ieee.double.infRung := by
  have hL : N.log2 ≤ 52 := by
    have := (Nat.log2_lt (Nat.ne_of_gt h1)).2 h2
    omega
  obtain ⟨a, b⟩ := rtRung_bd N h1 h2
  have hi : Ieee.double.infRung = 2047 * 2 ^ 52 := by decide
  rw [hi]
  unfold rtRung
  have : (1022 + N.log2 / 2) * 2 ^ 52 ≤ 1048 * 2 ^ 52 := Nat.mul_le_mul_right _ (by omega)
  omega

theorem rtRung_mono {M N : Nat} (h0 : 0 < M) (h : M ≤ N) (h2 : N < 2 ^ 53) : rtRung M ≤ rtRung N := by
  have hl : M.log2 ≤ N.log2 := (Nat.le_log2 (by omega)).2 (Nat.le_trans (Nat.log2_self_le (by omega)) h)
  obtain ⟨a1, b1⟩ := rtRung_bd M h0 (by omega)
  obtain ⟨a2, b2⟩ := rtRung_bd N (by omega) h2
  unfold rtRung
  by_cases he : M.log2 / 2 = N.log2 / 2
  · rw [he]
    have hr : radN M ≤ radN N := by unfold radN; rw [he]; exact Nat.mul_le_mul_right _ h
    have := cut8_mono (by have := (rtM_bd M h0 (by omega)).1; omega) (rtM_mono hr)
    omega
  · have hlt : M.log2 / 2 + 1 ≤ N.log2 / 2 := by have := Nat.div_le_div_right (c := 2) hl; omega
    have : (1022 + (M.log2 / 2 + 1)) * 2 ^ 52 ≤ (1022 + N.log2 / 2) * 2 ^ 52 := Nat.mul_le_mul_right _ (by omega)
    have e : (1022 + (M.log2 / 2 + 1)) * 2 ^ 52 = (1022 + M.log2 / 2) * 2 ^ 52 + 2 ^ 52 := by rw [← Nat.add_assoc, Nat.add_mul, Nat.one_mul]
    omega

/-- The square root's bits. -/
def S (N : Nat) : Nat := if N = 0 then 0 else rtRung N

theorem word_false (r : Nat) : Ieee.double.word false r = r := rfl

theorem lp_double : Ieee.double.leastPlace = -1074 := by decide
theorem fb_double : (Ieee.double.fractionBits : Int) = 52 := rfl
theorem bin_double : Ieee.double.binade = 2 ^ 52 := rfl

theorem near3 (M h : Nat) (hh : h ≤ 26) (a : 2 ^ 55 ≤ M) (b : M < 2 ^ 56) : Ieee.double.nearest false M ((h : Int) - 55) = min ((1022 + h) * 2 ^ 52 + cut8 M) Ieee.double.infRung := by
  have hM0 : M ≠ 0 := by omega
  have hlog : M.log2 = 55 := by
    have l1 : 55 ≤ M.log2 := (Nat.le_log2 hM0).2 a
    have l2 : M.log2 < 56 := (Nat.log2_lt hM0).2 b
    omega
  clear a b
  have hlast : max ((h : Int) - 55 + ((M.log2 : Nat) : Int) - 52) (-1074) = (h : Int) - 52 := by rw [hlog]; omega
  have e1 : ((h : Int) - 55 - ((h : Int) - 52)).toNat = 0 := by omega
  have e2 : ((h : Int) - 52 - ((h : Int) - 55)).toNat = 3 := by omega
  have e3 : ((h : Int) - 52 - -1074).toNat = 1022 + h := by omega
  unfold Ieee.Format.nearest
  rw [if_neg hM0]
  simp only
  rw [lp_double, fb_double, bin_double, hlast, e1, e2, e3, Nat.shiftLeft_zero, word_false]
  unfold cut8
  rfl

theorem near_rt (N : Nat) (h1 : 0 < N) (h2 : N < 2 ^ 53) : Ieee.double.nearest false (rtM (radN N)) (((N.log2 / 2 : Nat) : Int) - 55) = rtRung N := by
  have hL : N.log2 ≤ 52 := by
    have := (Nat.log2_lt (Nat.ne_of_gt h1)).2 h2
    omega
  obtain ⟨a, b⟩ := rtM_bd N h1 h2
  rw [near3 _ _ (by omega) a b]
  exact Nat.min_eq_left (Nat.le_of_lt (rtRung_lt N h1 h2).2)

theorem sqrt_fl (N : Nat) (h2 : N < 2 ^ 53) : Ieee.double.sqrt (fl N) = some (S N) := by
  by_cases h0 : N = 0
  · subst h0
    have e : fl ((0 : Nat) : Int) = 0 := fl_zero
    rw [e]
    unfold Ieee.Format.sqrt
    rw [read_zero]
    rfl
  · have hL : N.log2 ≤ 52 := by
      have := (Nat.log2_lt h0).2 h2
      omega
    have hr := read_fl (N : Int) (by omega) (by simpa using h2)
    simp only [Int.natAbs_natCast] at hr
    have hn : decide ((N : Int) < 0) = false := decide_eq_false (by omega)
    rw [hn] at hr
    have hml : (N * 2 ^ (52 - N.log2)).log2 = 52 := by rw [log2_mul_pow N _ (by omega)]; omega
    have hm0 : N * 2 ^ (52 - N.log2) ≠ 0 := Nat.ne_of_gt (Nat.mul_pos (by omega) (Nat.two_pow_pos _))
    have hfb : Ieee.double.fractionBits = 52 := rfl
    unfold Ieee.Format.sqrt
    rw [hr]
    simp only [Ieee.Datum.root]
    rw [if_neg hm0, hml, hfb]
    have e1 : 2 * (52 + 2) - 52 = 56 := rfl
    have e2 : (((N.log2 : Int) - 52 - ((56 : Nat) : Int)) % 2).toNat = N.log2 % 2 := by omega
    rw [e1, e2]
    have e3 : (N * 2 ^ (52 - N.log2)) <<< (56 + N.log2 % 2) = radN N := by
      unfold radN
      rw [Nat.shiftLeft_eq, Nat.mul_assoc, ← Nat.pow_add]
      congr 2
      omega
    rw [e3]
    have e4 : ((N.log2 : Int) - 52 - ((56 + N.log2 % 2 : Nat) : Int)) / 2 - 1 = ((N.log2 / 2 : Nat) : Int) - 55 := by omega
    rw [e4]
    have e5 : Ieee.Datum.rootFrom (radN N) ((radN N).log2 / 2 + 1) 0 = isq (radN N) := rfl
    rw [e5]
    simp only [Bool.false_eq_true, if_false, Option.map_some]
    show some (Ieee.double.nearest false (rtM (radN N)) _) = _
    rw [near_rt N (by omega) h2]
    unfold S
    rw [if_neg h0]

/-- Of a square the root is the number. -/
theorem S_sq (a : Nat) (h : a < 2 ^ 26) : S (a * a) = fl a := by
  by_cases h0 : a = 0
  · subst h0; rw [show fl ((0 : Nat) : Int) = 0 from fl_zero]; rfl
  · have hlo : 2 ^ a.log2 ≤ a := Nat.log2_self_le h0
    have hhi : a < 2 ^ (a.log2 + 1) := Nat.lt_log2_self
    have hL : a.log2 < 26 := (Nat.log2_lt h0).2 h
    have hs0 : 0 < a * a := Nat.mul_pos (by omega) (by omega)
    have hsb : a * a < 2 ^ 53 := by
      have := Nat.mul_le_mul (Nat.le_of_lt h) (Nat.le_of_lt h)
      have e : 2 ^ 26 * 2 ^ 26 = 2 ^ 52 := by rw [← Nat.pow_add]
      omega
    have hl1 : 2 * a.log2 ≤ (a * a).log2 := by
      refine (Nat.le_log2 (by omega)).2 ?_
      have := Nat.mul_le_mul hlo hlo
      rw [← Nat.pow_add] at this
      rw [Nat.two_mul]; exact this
    have hl2 : (a * a).log2 < 2 * a.log2 + 2 := by
      refine (Nat.log2_lt (by omega)).2 ?_
      have := Nat.mul_self_lt_mul_self hhi
      rw [← Nat.pow_add] at this
      have e : a.log2 + 1 + (a.log2 + 1) = 2 * a.log2 + 2 := by omega
      rw [e] at this; exact this
    have hh : (a * a).log2 / 2 = a.log2 := by omega
    have hn := near_rt (a * a) hs0 hsb
    rw [hh] at hn
    have hrad : radN (a * a) = (a * 2 ^ (54 - a.log2)) * (a * 2 ^ (54 - a.log2)) := by
      unfold radN
      rw [hh]
      have e : 2 ^ (108 - 2 * a.log2) = 2 ^ (54 - a.log2) * 2 ^ (54 - a.log2) := by rw [← Nat.pow_add]; congr 1; omega
      rw [e]
      simp only [Nat.mul_assoc, Nat.mul_left_comm, Nat.mul_comm]
    have hM : rtM (radN (a * a)) = a * 2 ^ (55 - a.log2) := by
      rw [hrad]
      unfold rtM
      rw [isq_sq]
      have e : 2 ^ (55 - a.log2) = 2 * 2 ^ (54 - a.log2) := by rw [← Nat.pow_succ']; congr 1; omega
      rw [e]
      simp [Nat.mul_left_comm]
    rw [hM] at hn
    have e1 : ((a.log2 : Nat) : Int) - 55 = -((55 - a.log2 : Nat) : Int) := by omega
    rw [e1, near_rung false a _ (by omega) (by omega)] at hn
    unfold S
    have hd : decide ((a : Int) < 0) = false := decide_eq_false (by omega)
    rw [if_neg (by omega), ← hn, fl_word a (by omega) (by simp; omega), hd]
    rfl

theorem fin_rung (r : Nat) (h1 : 2 ^ 52 ≤ r) (h2 : r < Ieee.double.infRung) : fin r = true := by
  unfold fin
  have := read_word false r h1 h2
  rw [word_false] at this
  rw [this]

theorem fin_zero : fin 0 = true := by unfold fin; rw [read_zero]

theorem fin_S (N : Nat) (h2 : N < 2 ^ 53) : fin (S N) = true := by
  unfold S
  by_cases h0 : N = 0
  · rw [if_pos h0]; exact fin_zero
  · rw [if_neg h0]
    obtain ⟨a, b⟩ := rtRung_lt N (by omega) h2
    exact fin_rung _ a b

theorem fv_rung (r : Nat) (h1 : 2 ^ 52 ≤ r) (h2 : r < Ieee.double.infRung) : fv r = (((2 ^ 52 + r % 2 ^ 52) * 2 ^ (r / 2 ^ 52 - 1) : Nat) : Int) := by
  unfold fv
  have := read_word false r h1 h2
  rw [word_false] at this
  rw [this]
  simp only
  have e : (-1074 + ((r / 2 ^ 52 - 1 : Nat) : Int) + 1074).toNat = r / 2 ^ 52 - 1 := by omega
  rw [e]
  unfold Ieee.signed
  rw [Nat.shiftLeft_eq]
  simp

theorem fv_mono {r s : Nat} (h1 : 2 ^ 52 ≤ r) (h : r ≤ s) (h2 : s < Ieee.double.infRung) : fv r ≤ fv s := by
  rw [fv_rung r h1 (by omega), fv_rung s (by omega) h2]
  have hd : r / 2 ^ 52 ≤ s / 2 ^ 52 := Nat.div_le_div_right h
  refine Int.ofNat_le.2 ?_
  by_cases he : r / 2 ^ 52 = s / 2 ^ 52
  · rw [he]
    exact Nat.mul_le_mul_right _ (by omega)
  · have hr1 : 1 ≤ r / 2 ^ 52 := by omega
    obtain ⟨q, hq⟩ : ∃ q, r / 2 ^ 52 = q + 1 := ⟨r / 2 ^ 52 - 1, by omega⟩
    have hs1 : q + 1 ≤ s / 2 ^ 52 - 1 := by omega
    rw [hq]
    have l1 : (2 ^ 52 + r % 2 ^ 52) * 2 ^ (q + 1 - 1) ≤ 2 ^ 53 * 2 ^ q := Nat.mul_le_mul (by omega) (by simp)
    have l2 : 2 ^ 53 * 2 ^ q = 2 ^ 52 * 2 ^ (q + 1) := by rw [← Nat.pow_add, ← Nat.pow_add]; congr 1; omega
    have l3 : 2 ^ 52 * 2 ^ (q + 1) ≤ (2 ^ 52 + s % 2 ^ 52) * 2 ^ (s / 2 ^ 52 - 1) := Nat.mul_le_mul (by omega) (Nat.pow_le_pow_right (by omega) hs1)
    omega

theorem fv_zero : fv 0 = 0 := by unfold fv; rw [read_zero]; simp [Ieee.signed]

theorem fv_S_mono {M N : Nat} (h : M ≤ N) (h2 : N < 2 ^ 53) : fv (S M) ≤ fv (S N) := by
  unfold S
  by_cases hN : N = 0
  · have : M = 0 := by omega
    rw [if_pos this, if_pos hN]; exact Int.le_refl _
  · rw [if_neg hN]
    obtain ⟨a, b⟩ := rtRung_lt N (by omega) h2
    by_cases hM : M = 0
    · rw [if_pos hM, fv_zero, fv_rung _ a b]; omega
    · rw [if_neg hM]
      exact fv_mono (rtRung_lt M (by omega) (by omega)).1 (rtRung_mono (by omega) h h2) b

end Go.Proofs.Ybulkazxi
