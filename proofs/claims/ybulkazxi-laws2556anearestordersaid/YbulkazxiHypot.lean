/-
  gap, hypot, math.Sqrt, (Rect).distance at small whole numbers.
-/
import Derived.Test.YbulkazxiSqrt
import Derived.Test.YbulkazxiNan
import Derived.Deep.DrawnRows
namespace Go.Proofs.Ybulkazxi
open Go.RowKit
attribute [local go_sem] run_store_float
attribute [local go_sem ↓] Go.wp_at_zero Go.wp_at_succ

theorem mul_fl (a b : Nat) (ha : 0 < a) (hb : 0 < b) (hc : a * b < 2 ^ 53) : Ieee.double.mul (fl a) (fl b) = some (fl (a * b : Nat)) := by
  have ha' : a < 2 ^ 53 := Nat.lt_of_le_of_lt (Nat.le_mul_of_pos_right a hb) hc
  have hb' : b < 2 ^ 53 := Nat.lt_of_le_of_lt (Nat.le_mul_of_pos_left b ha) hc
  obtain ⟨hLa, _, _⟩ := rung_bd a ha ha'
  obtain ⟨hLb, _, _⟩ := rung_bd b hb hb'
  have r1 := read_fl (a : Int) (by omega) (by simpa using ha')
  have r2 := read_fl (b : Int) (by omega) (by simpa using hb')
  have d1 : decide ((a : Int) < 0) = false := decide_eq_false (by omega)
  have d2 : decide ((b : Int) < 0) = false := decide_eq_false (by omega)
  simp only [Int.natAbs_natCast, d1, d2] at r1 r2
  unfold Ieee.Format.mul
  rw [r1, r2]
  simp only [Ieee.Datum.product, Option.map_some]
  congr 1
  show Ieee.double.nearest _ _ _ = _
  have e1 : a * 2 ^ (52 - a.log2) * (b * 2 ^ (52 - b.log2)) = (a * b) * 2 ^ (52 - a.log2 + (52 - b.log2)) := by
    rw [Nat.pow_add]
    simp only [Nat.mul_assoc, Nat.mul_left_comm]
  have e2 : (a.log2 : Int) - 52 + ((b.log2 : Int) - 52) = -((52 - a.log2 + (52 - b.log2) : Nat) : Int) := by omega
  have hab : 0 < a * b := Nat.mul_pos ha hb
  rw [e1, e2, near_rung _ (a * b) _ hab hc]
  generalize a * b = c at hab hc
  have hd : decide ((c : Int) < 0) = false := decide_eq_false (by omega)
  rw [fl_word (c : Int) (by omega) (by simpa using hc), hd]
  simp

theorem order_fl (a b : Int) (ha : a.natAbs < 2 ^ 53) (hb : b.natAbs < 2 ^ 53) : FloatKind.f64.format.order (fl a) (fl b) = some (compare a b) := by
  rw [order_fin (fin_fl a ha) (fin_fl b hb), fv_fl a ha, fv_fl b hb, compare_scale]
theorem order_lt {a b : Int} (ha : a.natAbs < 2 ^ 53) (hb : b.natAbs < 2 ^ 53) (h : a < b) : FloatKind.f64.format.order (fl a) (fl b) = some .lt := by rw [order_fl a b ha hb, Int.compare_eq_lt.2 h]
theorem order_eq {a b : Int} (ha : a.natAbs < 2 ^ 53) (hb : b.natAbs < 2 ^ 53) (h : a = b) : FloatKind.f64.format.order (fl a) (fl b) = some .eq := by rw [order_fl a b ha hb, Int.compare_eq_eq.2 h]
theorem order_gt {a b : Int} (ha : a.natAbs < 2 ^ 53) (hb : b.natAbs < 2 ^ 53) (h : b < a) : FloatKind.f64.format.order (fl a) (fl b) = some .gt := by rw [order_fl a b ha hb, Int.compare_eq_gt.2 h]

/-- How far v lies outside lo .. hi. -/
def gapI (v lo hi : Int) : Int := if v < lo then lo - v else if hi < v then v - hi else 0

theorem gapI_nn (v lo hi : Int) : 0 ≤ gapI v lo hi := by unfold gapI; split <;> (try split) <;> omega
theorem gapI_le (v lo hi : Int) (hv : -128 ≤ v ∧ v ≤ 127) (hl : -128 ≤ lo ∧ lo ≤ 127) (hh : -128 ≤ hi ∧ hi ≤ 382) : gapI v lo hi ≤ 255 := by unfold gapI; split <;> (try split) <;> omega
theorem gapI_mono {v lo hi lo' hi' : Int} (h1 : lo' ≤ lo) (h2 : hi ≤ hi') (h3 : lo ≤ hi) : gapI v lo' hi' ≤ gapI v lo hi := by
  unfold gapI
  split <;> split <;> (try split) <;> (try split) <;> omega

set_option maxHeartbeats 400000 in
theorem gap_any (v lo hi : Int) (w : World) (hv : -128 ≤ v ∧ v ≤ 127) (hl : -128 ≤ lo ∧ lo ≤ 127) (hh : -128 ≤ hi ∧ hi ≤ 382) :
    Calls Yba.prog 25 #[.float .f64 (fl v), .float .f64 (fl lo), .float .f64 (fl hi)] w fun e w' => e = .returned (.float .f64 (fl (gapI v lo hi))) ∧ w' = w := by
  by_cases h1 : v < lo
  · have o1 := order_lt (a := v) (b := lo) (by omega) (by omega) h1
    have s1 := fun wx => run_float_arith (P := Yba.prog) wx .sub 42 .f64 (fl lo) (fl v) _ (sub_fl lo v (by omega) (by omega) (by omega))
    have e : gapI v lo hi = lo - v := by unfold gapI; rw [if_pos h1]
    rw [e]
    clear hv hl hh h1 e
    go_enter Yba.func25, Yba.ntmps25
    go_wp2
    go_ret
    exact ⟨rfl, rfl⟩
  · have o1 : FloatKind.f64.format.order (fl v) (fl lo) ≠ some .lt := by
      rw [order_fl v lo (by omega) (by omega)]
      intro hx
      exact h1 (Int.compare_eq_lt.1 (Option.some.inj hx))
    have o1' : (FloatKind.f64.format.order (fl v) (fl lo) == some .lt) = false := by simp [o1]
    by_cases h2 : hi < v
    · have o2 := order_gt (a := v) (b := hi) (by omega) (by omega) h2
      have s1 := fun wx => run_float_arith (P := Yba.prog) wx .sub 42 .f64 (fl v) (fl hi) _ (sub_fl v hi (by omega) (by omega) (by omega))
      have e : gapI v lo hi = v - hi := by unfold gapI; rw [if_neg h1, if_pos h2]
      rw [e]
      clear hv hl hh h1 h2 o1 e
      go_enter Yba.func25, Yba.ntmps25
      go_wp2
      go_ret
      exact ⟨rfl, rfl⟩
    · have o2 : FloatKind.f64.format.order (fl v) (fl hi) ≠ some .gt := by
        rw [order_fl v hi (by omega) (by omega)]
        intro hx
        exact h2 (Int.compare_eq_gt.1 (Option.some.inj hx))
      have o2' : (FloatKind.f64.format.order (fl v) (fl hi) == some .gt) = false := by simp [o2]
      have e : gapI v lo hi = 0 := by unfold gapI; rw [if_neg h1, if_neg h2]
      rw [e, fl_zero]
      clear hv hl hh h1 h2 o1 o2 e
      go_enter Yba.func25, Yba.ntmps25
      go_wp2
      go_ret
      exact ⟨rfl, rfl⟩

theorem sqrt_run {x r : Nat} (hs : FloatKind.f64.format.sqrt x = some r) : Extern.MathSqrt.sqrt #[.float .f64 x] = pure (.float .f64 r) := by
  show (match FloatKind.f64.format.sqrt x with | some r => (pure (.float .f64 r) : Sem Value) | none => do pure (.float .f64 (← choose (.nanBits .f64 x x)))) = _
  rw [hs]

set_option maxHeartbeats 400000 in
theorem sqrt_any (N : Nat) (h : N < 2 ^ 53) (w : World) : Calls Yba.prog 39 #[.float .f64 (fl N)] w fun e w' => e = .returned (.float .f64 (S N)) ∧ w' = w := by
  have hl : ∀ wx, (callFunc 54 #[.float .f64 (fl N)]).run Yba.prog wx = .ok (.value (.float .f64 (S N))) wx := fun wx => by
    rw [run_callFunc_extern (P := Yba.prog) Yba.func54 (by kernel_rfl) (by kernel_rfl) (by kernel_rfl) (e := Extern.MathSqrt.sqrt) (by kernel_rfl)]
    have hs : FloatKind.f64.format.sqrt (fl N) = some (S N) := sqrt_fl N h
    rw [sqrt_run hs]
    rfl
  clear h
  go_enter Yba.func39, Yba.ntmps39
  go_wp2
  go_ret
  exact ⟨rfl, rfl⟩

/-- The length of the vector (a, b). -/
def D (a b : Nat) : Nat := S (a * a + b * b)

theorem D_comm (a b : Nat) : D a b = D b a := by unfold D; rw [Nat.add_comm]
theorem D_zero (a : Nat) (h : a ≤ 1000) : D a 0 = fl a := by unfold D; exact S_sq a (by omega)
theorem sum_sq (a b : Nat) (ha : a ≤ 1000) (hb : b ≤ 1000) : a * a + b * b ≤ 2000000 := by
  have := Nat.mul_le_mul ha ha
  have := Nat.mul_le_mul hb hb
  omega
theorem fin_D (a b : Nat) (ha : a ≤ 1000) (hb : b ≤ 1000) : fin (D a b) = true := fin_S _ (by have := sum_sq a b ha hb; omega)
theorem fv_D_mono {a b a' b' : Nat} (h1 : a ≤ a') (h2 : b ≤ b') (ha : a' ≤ 1000) (hb : b' ≤ 1000) : fv (D a b) ≤ fv (D a' b') :=
  fv_S_mono (Nat.add_le_add (Nat.mul_le_mul h1 h1) (Nat.mul_le_mul h2 h2)) (by have := sum_sq a' b' ha hb; omega)

theorem low_const : Ieee.double.read 2355382605114769408 = .number false (2 ^ 52) (-552) := by decide +kernel
theorem high_const : Ieee.double.read 6858982232485265408 = .number false (2 ^ 52) 448 := by decide +kernel
theorem fin_low : fin 2355382605114769408 = true := by unfold fin; rw [low_const]
theorem fin_high : fin 6858982232485265408 = true := by unfold fin; rw [high_const]
theorem fv_low : fv 2355382605114769408 < 1 * 2 ^ EX := by unfold fv EX; rw [low_const]; decide +kernel
theorem fv_high : 1000 * 2 ^ EX < fv 6858982232485265408 := by unfold fv EX; rw [high_const]; decide +kernel

theorem above_low (b : Nat) (h0 : 0 < b) (h : b ≤ 1000) : FloatKind.f64.format.order (fl b) 2355382605114769408 = some .gt := by
  rw [order_fin (fin_fl _ (by omega)) fin_low, fv_fl _ (by omega)]
  have h1 := fv_low
  have h2 : 1 * 2 ^ EX ≤ (b : Int) * 2 ^ EX := Int.mul_le_mul_of_nonneg_right (by omega) (Int.le_of_lt (pow_pos_int _))
  rw [Int.compare_eq_gt.2 (Int.lt_of_lt_of_le h1 h2)]
theorem below_high (b : Nat) (h : b ≤ 1000) : FloatKind.f64.format.order (fl b) 6858982232485265408 = some .lt := by
  rw [order_fin (fin_fl _ (by omega)) fin_high, fv_fl _ (by omega)]
  have h1 := fv_high
  have h2 : (b : Int) * 2 ^ EX ≤ 1000 * 2 ^ EX := Int.mul_le_mul_of_nonneg_right (by omega) (Int.le_of_lt (pow_pos_int _))
  rw [Int.compare_eq_lt.2 (Int.lt_of_le_of_lt h2 h1)]

theorem fl_nat_zero : fl ((0 : Nat) : Int) = 0 := fl_zero

set_option maxHeartbeats 1000000 in
theorem hypot_any (a b : Nat) (w : World) (ha : a ≤ 1000) (hb : b ≤ 1000) :
    Calls Yba.prog 24 #[.float .f64 (fl a), .float .f64 (fl b)] w fun e w' => e = .returned (.float .f64 (D a b)) ∧ w' = w := by
  -- with the greater one first
  have key : ∀ x y : Nat, y ≤ x → x ≤ 1000 → 0 < y → ∃ p q r : Nat, (∀ wx, (binOp .mul 42 (.float .f64 (fl x)) (.float .f64 (fl x))).run Yba.prog wx = .ok (.float .f64 (fl p)) wx) ∧ (∀ wx, (binOp .mul 42 (.float .f64 (fl y)) (.float .f64 (fl y))).run Yba.prog wx = .ok (.float .f64 (fl q)) wx) ∧
      (∀ wx, (binOp .add 42 (.float .f64 (fl p)) (.float .f64 (fl q))).run Yba.prog wx = .ok (.float .f64 (fl r)) wx) ∧ FloatKind.f64.format.order (fl y) 2355382605114769408 = some .gt ∧ FloatKind.f64.format.order (fl x) 6858982232485265408 = some .lt ∧ FloatKind.f64.format.order (fl y) 0 = some .gt ∧
      Hid (∀ wx, Calls Yba.prog 39 #[.float .f64 (fl r)] wx fun e w' => e = .returned (.float .f64 (D x y)) ∧ w' = wx) := by
    intro x y hyx hx hy
    have hs := sum_sq x y hx (by omega)
    have hxx : 0 < x * x := Nat.mul_pos (by omega) (by omega)
    have hyy : 0 < y * y := Nat.mul_pos hy hy
    refine ⟨x * x, y * y, x * x + y * y, fun wx => run_float_arith (P := Yba.prog) wx .mul 42 .f64 _ _ _ (mul_fl x x (by omega) (by omega) (by omega)), fun wx => run_float_arith (P := Yba.prog) wx .mul 42 .f64 _ _ _ (mul_fl y y hy hy (by omega)), fun wx => ?_, above_low y hy (by omega), below_high x hx, ?_, fun wx => sqrt_any _ (by omega) wx⟩
    · have := add_fl ((x * x : Nat) : Int) ((y * y : Nat) : Int) (by simp; omega) (by simp; omega) (by omega)
      rw [← Int.natCast_add] at this
      exact run_float_arith (P := Yba.prog) wx .add 42 .f64 _ _ _ this
    · have := order_gt (a := (y : Int)) (b := 0) (by omega) (by omega) (by omega)
      rw [fl_zero] at this
      exact this
  by_cases hlt : a < b
  · have o1 := order_lt (a := (a : Int)) (b := (b : Int)) (by omega) (by omega) (by omega)
    by_cases h0 : a = 0
    · subst h0
      have o2 : FloatKind.f64.format.order 0 0 = some .eq := by decide +kernel
      rw [D_comm, D_zero b hb]
      rw [fl_nat_zero] at o1 ⊢
      clear key ha hb hlt
      go_enter Yba.func24, Yba.ntmps24
      go_wp2
      go_ret
      exact ⟨rfl, rfl⟩
    · obtain ⟨p, q, r, k1, k2, k3, k4, k5, k6, HS⟩ := key b a (by omega) hb (by omega)
      rw [D_comm]
      clear key ha hb hlt h0
      go_enter Yba.func24, Yba.ntmps24
      go_wp2_with (go_at_call 39; refine (HS.out _).mono ?_; rintro e w' ⟨rfl, rfl⟩)
      go_ret
      exact ⟨rfl, rfl⟩
  · have o1 : (FloatKind.f64.format.order (fl a) (fl b) == some .lt) = false := by
      rw [order_fl (a : Int) (b : Int) (by omega) (by omega)]
      cases hc : compare (a : Int) (b : Int) with
      | lt => have := Int.compare_eq_lt.1 hc; omega
      | eq => rfl
      | gt => rfl
    by_cases h0 : b = 0
    · subst h0
      have o2 : FloatKind.f64.format.order 0 0 = some .eq := by decide +kernel
      rw [D_zero a ha]
      rw [fl_nat_zero] at o1 ⊢
      clear key ha hb hlt
      go_enter Yba.func24, Yba.ntmps24
      go_wp2
      go_ret
      exact ⟨rfl, rfl⟩
    · obtain ⟨p, q, r, k1, k2, k3, k4, k5, k6, HS⟩ := key a b (by omega) ha (by omega)
      clear key ha hb hlt h0
      go_enter Yba.func24, Yba.ntmps24
      go_wp2_with (go_at_call 39; refine (HS.out _).mono ?_; rintro e w' ⟨rfl, rfl⟩)
      go_ret
      exact ⟨rfl, rfl⟩

end Go.Proofs.Ybulkazxi
