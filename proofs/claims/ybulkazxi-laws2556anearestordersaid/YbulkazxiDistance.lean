/-
  (Rect).distance at small whole numbers.
-/
import Derived.Test.YbulkazxiHypot
import Derived.Test.YbulkazxiAcc
namespace Go.Proofs.Ybulkazxi
open Go.RowKit
attribute [local go_sem] run_store_float
attribute [local go_sem ↓] Go.wp_at_zero Go.wp_at_succ

/-- A rectangle of whole numbers. -/
structure I4 where
  a : Int
  b : Int
  c : Int
  d : Int

def I4.ok (r : I4) : Prop := (-128 ≤ r.a ∧ r.a ≤ 127) ∧ (-128 ≤ r.b ∧ r.b ≤ 127) ∧ (-128 ≤ r.c ∧ r.c ≤ 382) ∧ (-128 ≤ r.d ∧ r.d ≤ 382) ∧ r.a ≤ r.c ∧ r.b ≤ r.d
def I4.fl (r : I4) : R4 := ⟨Ybulkazxi.fl r.a, Ybulkazxi.fl r.b, Ybulkazxi.fl r.c, Ybulkazxi.fl r.d⟩

/-- The distance from (px, py), as bits. -/
def dk (px py : Int) (r : I4) : Nat := D (gapI px r.a r.c).toNat (gapI py r.b r.d).toNat

def pok (v : Int) : Prop := -128 ≤ v ∧ v ≤ 127

theorem gap_bd {px : Int} {lo hi : Int} (hp : pok px) (hl : -128 ≤ lo ∧ lo ≤ 127) (hh : -128 ≤ hi ∧ hi ≤ 382) : (gapI px lo hi).toNat ≤ 1000 := by
  have := gapI_le px lo hi hp hl hh
  omega

theorem fin_dk {px py : Int} {r : I4} (hx : pok px) (hy : pok py) (h : r.ok) : fin (dk px py r) = true :=
  fin_D _ _ (gap_bd hx h.1 h.2.2.1) (gap_bd hy h.2.1 h.2.2.2.1)

/-- r lies in s. -/
def I4.inn (r s : I4) : Prop := s.a ≤ r.a ∧ s.b ≤ r.b ∧ r.c ≤ s.c ∧ r.d ≤ s.d

theorem dk_mono {px py : Int} {r s : I4} (hx : pok px) (hy : pok py) (h : r.ok) (hi : r.inn s) : fv (dk px py s) ≤ fv (dk px py r) := by
  have g1 := gapI_mono (v := px) hi.1 hi.2.2.1 h.2.2.2.2.1
  have g2 := gapI_mono (v := py) hi.2.1 hi.2.2.2 h.2.2.2.2.2
  exact fv_D_mono (by omega) (by omega) (gap_bd hx h.1 h.2.2.1) (gap_bd hy h.2.1 h.2.2.2.1)

set_option maxRecDepth 100000 in
set_option maxHeartbeats 1000000 in
theorem distance_abs (a b c d fx fy gx gy dd : Nat) (w : World)
    (HX : Hid (∀ wx, Calls Yba.prog 25 #[.float .f64 fx, .float .f64 a, .float .f64 c] wx fun e w' => e = .returned (.float .f64 gx) ∧ w' = wx))
    (HY : Hid (∀ wx, Calls Yba.prog 25 #[.float .f64 fy, .float .f64 b, .float .f64 d] wx fun e w' => e = .returned (.float .f64 gy) ∧ w' = wx))
    (HH : Hid (∀ wx, Calls Yba.prog 24 #[.float .f64 gx, .float .f64 gy] wx fun e w' => e = .returned (.float .f64 dd) ∧ w' = wx)) :
    Calls Yba.prog 11 #[.agg #[.float .f64 a, .float .f64 b, .float .f64 c, .float .f64 d], .agg #[.float .f64 fx, .float .f64 fy]] w fun e w' => e = .returned (.float .f64 dd) ∧ Below w.heap.size w w' := by
  go_enter Yba.func11, Yba.ntmps11
  go_wp2_with fail
  obtain ⟨w2, hw2⟩ : ∃ w2, w2 = (w.alloc (.cells #[.float .f64 a, .float .f64 b, .float .f64 c, .float .f64 d] 46)).alloc (.cells #[.float .f64 fx, .float .f64 fy] 44) := ⟨_, rfl⟩
  rw [← hw2]
  have hb0 : w2.heap[w.heap.size]? = some (.cells #[.float .f64 a, .float .f64 b, .float .f64 c, .float .f64 d] 46) := by
    rw [hw2]; exact (Below.heap_alloc _ _ _ (by simp)).trans (heap_alloc_new w _)
  have hb1 : w2.heap[w.heap.size + 1]? = some (.cells #[.float .f64 fx, .float .f64 fy] 44) := by
    have := heap_alloc_new (w.alloc (.cells #[.float .f64 a, .float .f64 b, .float .f64 c, .float .f64 d] 46)) (.cells #[.float .f64 fx, .float .f64 fy] 44)
    rw [size_alloc] at this
    rw [hw2]; exact this
  have hB : Below w.heap.size w w2 := by rw [hw2]; exact ((Below.refl _ w).alloc (Nat.le_refl _) _).alloc (by simp) _
  have HB : Hid (Below w.heap.size w w2) := hB
  have c0 : w2.cell? ⟨w.heap.size, 0, none⟩ = some (.float .f64 a) := cell_block hb0
  have c1 : w2.cell? ⟨w.heap.size, 1, none⟩ = some (.float .f64 b) := cell_block hb0
  have c2 : w2.cell? ⟨w.heap.size, 2, none⟩ = some (.float .f64 c) := cell_block hb0
  have c3 : w2.cell? ⟨w.heap.size, 3, none⟩ = some (.float .f64 d) := cell_block hb0
  have d0 : w2.cell? ⟨w.heap.size + 1, 0, none⟩ = some (.float .f64 fx) := cell_block hb1
  have d1 : w2.cell? ⟨w.heap.size + 1, 1, none⟩ = some (.float .f64 fy) := cell_block hb1
  clear hb0 hb1 hB hw2
  go_quiet (first
    | (go_at_call_of 25 (Value.float .f64 fx); exact Calls.quiet_of_same (HX.out _))
    | (go_at_call_of 25 (Value.float .f64 fy); exact Calls.quiet_of_same (HY.out _))
    | (go_at_call 24; exact Calls.quiet_of_same (HH.out _)))
  go_wp2_with fail
  go_ret
  exact ⟨rfl, HB.out.os, HB.out.tape, HB.out.output, HB.out.size, HB.out.block⟩

theorem distance_any (r : I4) (px py : Int) (w : World) (hr : r.ok) (hx : pok px) (hy : pok py) :
    Calls Yba.prog 11 #[.agg #[.float .f64 r.fl.a, .float .f64 r.fl.b, .float .f64 r.fl.c, .float .f64 r.fl.d], .agg #[.float .f64 (fl px), .float .f64 (fl py)]] w fun e w' => e = .returned (.float .f64 (dk px py r)) ∧ Below w.heap.size w w' := by
  refine distance_abs r.fl.a r.fl.b r.fl.c r.fl.d (fl px) (fl py) (fl (gapI px r.a r.c)) (fl (gapI py r.b r.d)) (dk px py r) w ?_ ?_ ?_
  · exact fun wx => gap_any px r.a r.c wx hx hr.1 hr.2.2.1
  · exact fun wx => gap_any py r.b r.d wx hy hr.2.1 hr.2.2.2.1
  · intro wx
    have h := hypot_any (gapI px r.a r.c).toNat (gapI py r.b r.d).toNat wx (gap_bd hx hr.1 hr.2.2.1) (gap_bd hy hr.2.1 hr.2.2.2.1)
    rw [Int.toNat_of_nonneg (gapI_nn _ _ _), Int.toNat_of_nonneg (gapI_nn _ _ _)] at h
    exact h

end Go.Proofs.Ybulkazxi
