/-
  THE PLAIN LAW of floats' order: finite floats stand to each other as whole numbers do; a candidate's rank.
-/
import Derived.Test.YbulkazxiBefore
namespace Go.Proofs.Ybulkazxi
open Go.RowKit

/-- The float is a number (no infinity, no NaN). -/
def fin (x : Nat) : Bool := match Ieee.double.read x with
  | .number .. => true
  | _ => false

/-- Its value, in units of the least place. -/
def fv (x : Nat) : Int := match Ieee.double.read x with
  | .number s m i => Ieee.signed s m (i + 1074).toNat
  | _ => 0

theorem read_place {x : Nat} {s : Bool} {m : Nat} {i : Int} (h : Ieee.double.read x = .number s m i) : -1074 ≤ i := by
  have hl : Ieee.double.leastPlace = -1074 := by decide
  unfold Ieee.Format.read at h
  simp only at h
  split at h
  · cases h
    rw [hl]; omega
  · split at h
    · cases h
      rw [hl]; omega
    · split at h <;> cases h

theorem signed_scale (s : Bool) (m a b : Nat) : Ieee.signed s m (a + b) = Ieee.signed s m a * 2 ^ b := by
  unfold Ieee.signed
  have e : m <<< (a + b) = (m <<< a) * 2 ^ b := by
    rw [Nat.shiftLeft_eq, Nat.shiftLeft_eq, Nat.pow_add, Nat.mul_assoc]
  rw [e]
  split
  · rw [Int.natCast_mul]; simp [Int.neg_mul]
  · rw [Int.natCast_mul]; simp

theorem compare_scale (a b : Int) (k : Nat) : compare (a * 2 ^ k) (b * 2 ^ k) = compare a b := by
  have hp : (0 : Int) < 2 ^ k := Int.pow_pos (by decide)
  rcases Int.lt_trichotomy a b with h | h | h
  · have h' : a * 2 ^ k < b * 2 ^ k := Int.mul_lt_mul_of_pos_right h hp
    rw [Int.compare_eq_lt.2 h, Int.compare_eq_lt.2 h']
  · rw [h]; simp
  · have h' : b * 2 ^ k < a * 2 ^ k := Int.mul_lt_mul_of_pos_right h hp
    rw [Int.compare_eq_gt.2 h, Int.compare_eq_gt.2 h']

theorem order_fin {x y : Nat} (hx : fin x = true) (hy : fin y = true) : FloatKind.f64.format.order x y = some (compare (fv x) (fv y)) := by
  have hf : FloatKind.f64.format = Ieee.double := rfl
  rw [hf]
  unfold fin at hx hy
  unfold fv
  cases h1 : Ieee.double.read x with
  | infinity s => rw [h1] at hx; cases hx
  | nan s t => rw [h1] at hx; cases hx
  | number s m i =>
    cases h2 : Ieee.double.read y with
    | infinity s => rw [h2] at hy; cases hy
    | nan s t => rw [h2] at hy; cases hy
    | number t n j =>
      have p1 := read_place h1
      have p2 := read_place h2
      show (Ieee.double.read x).order (Ieee.double.read y) = _
      rw [h1, h2]
      simp only [Ieee.Datum.order]
      have e1 : (i + 1074).toNat = (i - min i j).toNat + (min i j + 1074).toNat := by omega
      have e2 : (j + 1074).toNat = (j - min i j).toNat + (min i j + 1074).toNat := by omega
      rw [e1, e2, signed_scale, signed_scale, compare_scale]

theorem flt_fin {x y : Nat} (hx : fin x = true) (hy : fin y = true) : flt x y = decide (fv x < fv y) := by
  unfold flt
  rw [order_fin hx hy]
  rcases Int.lt_trichotomy (fv x) (fv y) with h | h | h
  · rw [Int.compare_eq_lt.2 h]; simp [h]
  · rw [h]; simp
  · rw [Int.compare_eq_gt.2 h]
    have : ¬ fv x < fv y := by omega
    simp [this]
theorem feq_fin {x y : Nat} (hx : fin x = true) (hy : fin y = true) : feq x y = decide (fv x = fv y) := by
  unfold feq
  rw [order_fin hx hy]
  rcases Int.lt_trichotomy (fv x) (fv y) with h | h | h
  · rw [Int.compare_eq_lt.2 h]
    have : ¬ fv x = fv y := by omega
    simp [this]
  · rw [h]; simp
  · rw [Int.compare_eq_gt.2 h]
    have : ¬ fv x = fv y := by omega
    simp [this]

/-- A candidate's rank: by distance; of those at one distance pairs come before subtrees. -/
def rk (c : Cd) : Int := 2 * fv c.ky + if c.ch.isSome then 1 else 0

theorem bef_rk (a b : Cd) (ha : fin a.ky = true) (hb : fin b.ky = true) : bef a b = decide (rk a < rk b) := by
  unfold bef rk
  rw [flt_fin ha hb, feq_fin ha hb]
  cases a.ch <;> cases b.ch <;> simp <;> first | omega | (rw [Bool.eq_iff_iff]; simp; omega)

end Go.Proofs.Ybulkazxi
