/-
  The bounds of a child: min and max of floats that are small whole numbers.
-/
import Derived.Test.YbulkazxiPlain3
namespace Go.Proofs.Ybulkazxi
open Go.RowKit

def sml (a : Int) : Prop := a.natAbs < 2 ^ 53

theorem run_min_fl (ts : Array TypeId) (t : TypeId) (a b : Int) (ha : sml a) (hb : sml b) (w : World) : (Builtin.min_ ts t #[.float .f64 (fl a), .float .f64 (fl b)]).run Yba.prog w = .ok (.float .f64 (fl (min a b))) w := by
  rcases Int.lt_trichotomy a b with h | h | h
  · have o := order_lt ha hb h
    have e : min a b = a := by omega
    simp [Builtin.min_, Builtin.min2, o, e]
  · have o := order_eq ha hb h
    subst h
    have e : min a a = a := by omega
    simp [Builtin.min_, Builtin.min2, o, e]
  · have o := order_gt ha hb h
    have e : min a b = b := by omega
    simp [Builtin.min_, Builtin.min2, o, e]

theorem run_max_fl (ts : Array TypeId) (t : TypeId) (a b : Int) (ha : sml a) (hb : sml b) (w : World) : (Builtin.max_ ts t #[.float .f64 (fl a), .float .f64 (fl b)]).run Yba.prog w = .ok (.float .f64 (fl (max a b))) w := by
  rcases Int.lt_trichotomy a b with h | h | h
  · have o := order_lt ha hb h
    have e : max a b = b := by omega
    simp [Builtin.max_, Builtin.max2, o, e]
  · have o := order_eq ha hb h
    subst h
    have e : max a a = a := by omega
    simp [Builtin.max_, Builtin.max2, o, e]
  · have o := order_gt ha hb h
    have e : max a b = a := by omega
    simp [Builtin.max_, Builtin.max2, o, e]

/-- The least rectangle about two. -/
def I4.join (r s : I4) : I4 := ⟨min r.a s.a, min r.b s.b, max r.c s.c, max r.d s.d⟩
theorem I4.join_ok {r s : I4} (hr : r.ok) (hs : s.ok) : (r.join s).ok := by
  unfold I4.ok I4.join at *
  simp only
  omega
theorem I4.inn_refl (r : I4) : r.inn r := by unfold I4.inn; omega
theorem I4.inn_join {r s t : I4} (h : r.inn s) : r.inn (s.join t) := by unfold I4.inn I4.join at *; simp only; omega
theorem I4.inn_right (r s : I4) : s.inn (r.join s) := by unfold I4.inn I4.join; simp only; omega

/-- The bounds of the entries f, f + 1, .., f + t. -/
def bdTo (es : Nat → En) (f : Nat) : Nat → I4
  | 0 => (es f).i4
  | t + 1 => (bdTo es f t).join (es (f + (t + 1))).i4

theorem bdTo_ok {es : Nat → En} {f n : Nat} (he : ∀ k, k < n → (es k).ok) : ∀ t, f + t < n → (bdTo es f t).ok ∧ ∀ i, i ≤ t → (es (f + i)).i4.inn (bdTo es f t) := by
  intro t
  induction t with
  | zero =>
    intro h
    refine ⟨En.i4_ok (he f (by omega)), fun i hi => ?_⟩
    obtain rfl : i = 0 := by omega
    exact I4.inn_refl _
  | succ t ih =>
    intro h
    obtain ⟨h1, h2⟩ := ih (by omega)
    refine ⟨I4.join_ok h1 (En.i4_ok (he _ h)), fun i hi => ?_⟩
    by_cases e : i = t + 1
    · subst e; exact I4.inn_right _ _
    · exact I4.inn_join (h2 i (by omega))

def bdOf (es : Nat → En) (n j : Nat) : I4 := bdTo es (7 * j) (cnt n j - 1)

theorem bdOf_ok {es : Nat → En} {n : Nat} (he : ∀ k, k < n → (es k).ok) (j : Nat) (hj : 7 * j < n) : (bdOf es n j).ok ∧ ∀ i, i < cnt n j → (es (7 * j + i)).i4.inn (bdOf es n j) := by
  have hp := cnt_pos hj
  have hl := cnt_lt (n := n) (j := j) (i := cnt n j - 1) (by omega)
  obtain ⟨h1, h2⟩ := bdTo_ok (f := 7 * j) he (cnt n j - 1) hl
  exact ⟨h1, fun i hi => h2 i (by omega)⟩

theorem I4.sml {r : I4} (h : r.ok) : Ybulkazxi.sml r.a ∧ Ybulkazxi.sml r.b ∧ Ybulkazxi.sml r.c ∧ Ybulkazxi.sml r.d := by
  obtain ⟨h1, h2, h3, h4, _⟩ := h
  unfold Ybulkazxi.sml
  exact ⟨by omega, by omega, by omega, by omega⟩

end Go.Proofs.Ybulkazxi
