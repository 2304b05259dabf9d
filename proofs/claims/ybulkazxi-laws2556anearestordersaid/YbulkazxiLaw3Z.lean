/-
  LawS2556ANearestOrder: no entry, or too many.
-/
import Derived.Test.YbulkazxiLaw4Z
import Derived.Test.YbulkazxiDistance
namespace Go.Proofs.Ybulkazxi
open Go.RowKit
attribute [local go_sem] run_store_float func_eq_nil nil_eq_nil
attribute [local go_sem ↓] Go.wp_at_zero Go.wp_at_succ

set_option maxRecDepth 100000 in
set_option maxHeartbeats 2000000 in
theorem law3_long (p : Option Addr) (n c : Nat) (px py ks : Int) (w : World) (hn : 280 < n) :
    Calls Yba.prog 3 #[.slice p n c, .int .i8 px, .int .i8 py, .int .u8 ks] w fun e w' => e = .returned (.bool true) ∧ Below w.heap.size w w' := by
  have hn' : (280 : Int) < (n : Int) := by omega
  go_enter Yba.func3, Yba.ntmps3
  go_wp2_with fail
  go_ret
  exact ⟨rfl, Below.refl _ w⟩

/-- The walk of an empty tree. -/
theorem walk_nil3 (a b : Nat) (d t : Value) (h c : Int) (w : World) :
    Calls Yba.prog 8 #[.agg #[.int .u64 0, .pointer none, .int .i64 h, .int .i64 c, .pointer none], .agg #[.float .f64 a, .float .f64 b], d, t] w fun e w' => e = .returned (.tuple #[]) ∧ Below w.heap.size w w' := by
  go_enter Yba.func8, Yba.ntmps8
  go_wp2_with fail
  exact bodyPost_ret (results_none Yba.results8 _ _ _) rfl ⟨rfl, ((Below.refl _ w).alloc (Nat.le_refl _) _).alloc (by simp) _⟩

set_option maxRecDepth 100000 in
set_option maxHeartbeats 2000000 in
theorem law3_nil (p : Option Addr) (c : Nat) (px py ks : Int) (w : World) (hk : 0 ≤ ks ∧ ks ≤ 255) :
    Calls Yba.prog 3 #[.slice p 0 c, .int .i8 px, .int .i8 py, .int .u8 ks] w fun e w' => e = .returned (.bool true) ∧ Below w.heap.size w w' := by
  have HWn : Hid (∀ (a b : Nat) (d t : Value) (wx : World), Calls Yba.prog 8 #[.agg #[.int .u64 0, .pointer none, .int .i64 0, .int .i64 0, .pointer none], .agg #[.float .f64 a, .float .f64 b], d, t] wx fun e w' => e = .returned (.tuple #[]) ∧ Below wx.heap.size wx w') := fun a b d t wx => walk_nil3 a b d t 0 0 wx
  have HK : Hid (0 ≤ ks ∧ ks ≤ 255) := hk
  clear hk
  go_enter Yba.func3, Yba.ntmps3
  go_upto_region 31 with fail
  obtain ⟨st, hst⟩ : ∃ st : Nat, (wrap64 ks).tmod 2 = (st : Int) := by
    refine ⟨((wrap64 ks).tmod 2).toNat, ?_⟩
    have hw : wrap64 ks = ks := by
      have := HK.out
      unfold wrap64
      omega
    rw [hw]
    have := Int.tmod_nonneg (2 : Int) HK.out.1
    omega
  rw [hst]
  clear hst
  generalize floatOfInt .f64 px = fx
  generalize floatOfInt .f64 py = fy
  go_upto_region 33 with (
    go_at_call 8
    refine (HWn.out _ _ _ _ _).mono ?_
    rintro e w1 ⟨rfl, hb⟩)
  have hT : w1.heap[w.heap.size + 1 + 1]? = some (.cells #[.int .i64 st] 3) := (hb.block _ (by simp)).trans ((Below.heap_alloc _ _ _ (by simp)).trans (by
    have := heap_alloc_new ((w.alloc (.cells #[.int .u64 0, .pointer none, .int .i64 0, .int .i64 0, .pointer none] 28)).alloc (.cells #[.float .f64 fx, .float .f64 fy] 44)) (.cells #[.int .i64 st] 3)
    simpa using this))
  have hG : w1.heap[w.heap.size + 1 + 1 + 1]? = some (.cells #[.slice none 0 0] 63) := (hb.block _ (by simp)).trans (by
    have := heap_alloc_new (((w.alloc (.cells #[.int .u64 0, .pointer none, .int .i64 0, .int .i64 0, .pointer none] 28)).alloc (.cells #[.float .f64 fx, .float .f64 fy] 44)).alloc (.cells #[.int .i64 st] 3)) (.cells #[.slice none 0 0] 63)
    simpa using this)
  have htc : w1.cell? ⟨w.heap.size + 1 + 1, 0, none⟩ = some (.int .i64 st) := cell_block hT
  have hgc : w1.cell? ⟨w.heap.size + 1 + 1 + 1, 0, none⟩ = some (.slice none 0 0) := cell_block hG
  have hgl : w.heap.size + 1 + 1 + 1 < w1.heap.size := (Array.getElem?_eq_some_iff.1 hG).1
  have hb1 : Below w.heap.size w w1 := (((((Below.refl _ w).alloc (Nat.le_refl _) _).alloc (by simp) _).alloc (by simp; omega) _).alloc (by simp; omega) _).trans (hb.mono (by simp; omega))
  have HB : Hid (Below w.heap.size w w1) := hb1
  clear hb hb1 hT hG
  go_upto_region 34 with fail
  go_cut [151] from 144 (fun v wc => v = .bool false ∧ wc = w1)
  case first =>
    by_cases h1 : st = 0
    · subst h1
      go_wp2_with fail
      go_meet
      case rel => exact ⟨rfl, rfl⟩
    · have h1c : ¬ (st : Int) = 0 := by omega
      have h1d : ((st : Int) != 0) = true := by simp; omega
      have h2c : ¬ (st : Int) < 0 := by omega
      go_wp2_with fail
      go_meet
      case rel => exact ⟨by simp, rfl⟩
  case rest =>
    obtain ⟨rfl, hw⟩ := hcut
    obtain rfl := hw.symm
    have hmk := make0
    have hg2 : (w1.alloc (.cells #[] 4)).cell? ⟨w.heap.size + 1 + 1 + 1, 0, none⟩ = some (.slice none 0 0) := (((Chg.refl (fun _ => False) w1).alloc _).cell (p := ⟨w.heap.size + 1 + 1 + 1, 0, none⟩) hgl id).trans hgc
    go_wp2_with fail
    go_loopw [161] (fun i wr' => i = .int .i64 0 ∧ wr' = w1.alloc (.cells #[] 4)) (fun _ _ => 0)
    case atStart => exact ⟨rfl, rfl⟩
    case round =>
      obtain ⟨rfl, rfl⟩ := hrel
      go_wp2_with fail
      go_ret
      exact ⟨rfl, HB.out.alloc HB.out.size _⟩

end Go.Proofs.Ybulkazxi
