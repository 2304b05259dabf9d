/-
  LawS2556ARankedThenUnranked: no entry, or too many.
-/
import Derived.Test.YbulkazxiEq
namespace Go.Proofs.Ybulkazxi
open Go.RowKit
attribute [local go_sem] run_store_float func_eq_nil nil_eq_nil
attribute [local go_sem ↓] Go.wp_at_zero Go.wp_at_succ

set_option maxRecDepth 100000 in
set_option maxHeartbeats 2000000 in
theorem law4_long (p : Option Addr) (n c : Nat) (w : World) (hn : 40 < n) :
    Calls Yba.prog 4 #[.slice p n c] w fun e w' => e = .returned (.bool true) ∧ Below w.heap.size w w' := by
  have hn' : (40 : Int) < (n : Int) := by omega
  go_enter Yba.func4, Yba.ntmps4
  go_wp2_with fail
  go_ret
  exact ⟨rfl, (Below.refl _ w).alloc (Nat.le_refl _) _⟩

/-- The walk of an empty tree. -/
theorem walk_nil (d t : Value) (h c : Int) (w : World) :
    Calls Yba.prog 8 #[.agg #[.int .u64 0, .pointer none, .int .i64 h, .int .i64 c, .pointer none], .agg #[.float .f64 0, .float .f64 0], d, t] w fun e w' => e = .returned (.tuple #[]) ∧ Below w.heap.size w w' := by
  go_enter Yba.func8, Yba.ntmps8
  go_wp2_with fail
  exact bodyPost_ret (results_none Yba.results8 _ _ _) rfl ⟨rfl, ((Below.refl _ w).alloc (Nat.le_refl _) _).alloc (by simp) _⟩

theorem make0 (wx : World) : (Instr.makeSlice 68 (.int .i64 0) (.int .i64 0)).run Yba.prog wx = .ok (.slice (some ⟨wx.heap.size, 0, none⟩) 0 0) (wx.alloc (.cells #[] 4)) := by kernel_rfl

set_option maxRecDepth 100000 in
set_option maxHeartbeats 2000000 in
theorem law4_nil (p : Option Addr) (c : Nat) (w : World) :
    Calls Yba.prog 4 #[.slice p 0 c] w fun e w' => e = .returned (.bool true) ∧ Below w.heap.size w w' := by
  have HWn : Hid (∀ (d t : Value) (wx : World), Calls Yba.prog 8 #[.agg #[.int .u64 0, .pointer none, .int .i64 0, .int .i64 0, .pointer none], .agg #[.float .f64 0, .float .f64 0], d, t] wx fun e w' => e = .returned (.tuple #[]) ∧ Below wx.heap.size wx w') := fun d t wx => walk_nil d t 0 0 wx
  go_enter Yba.func4, Yba.ntmps4
  go_upto_region 12 with (
    go_at_call 8
    refine (HWn.out _ _ _).mono ?_
    rintro e w1 ⟨rfl, hb⟩)
  have hC : w1.heap[w.heap.size + 1 + 1]? = some (.cells #[.slice none 0 0] 74) := (hb.block _ (by simp)).trans ((Below.heap_alloc _ _ _ (by simp)).trans (by
    have := heap_alloc_new ((w.alloc (.cells #[.slice p 0 c] 22)).alloc (.cells #[.int .u64 0, .pointer none, .int .i64 0, .int .i64 0, .pointer none] 28)) (.cells #[.slice none 0 0] 74)
    simpa using this))
  have hG : w1.heap[w.heap.size + 1 + 1 + 1]? = some (.cells #[.slice none 0 0] 63) := (hb.block _ (by simp)).trans (by
    have := heap_alloc_new (((w.alloc (.cells #[.slice p 0 c] 22)).alloc (.cells #[.int .u64 0, .pointer none, .int .i64 0, .int .i64 0, .pointer none] 28)).alloc (.cells #[.slice none 0 0] 74)) (.cells #[.slice none 0 0] 63)
    simpa using this)
  have hcc : w1.cell? ⟨w.heap.size + 1 + 1, 0, none⟩ = some (.slice none 0 0) := cell_block hC
  have hgc : w1.cell? ⟨w.heap.size + 1 + 1 + 1, 0, none⟩ = some (.slice none 0 0) := cell_block hG
  have hgl : w.heap.size + 1 + 1 + 1 < w1.heap.size := (Array.getElem?_eq_some_iff.1 hG).1
  have hb1 : Below w.heap.size w w1 := (((((Below.refl _ w).alloc (Nat.le_refl _) _).alloc (by simp) _).alloc (by simp; omega) _).alloc (by simp; omega) _).trans (hb.mono (by simp; omega))
  have HB : Hid (Below w.heap.size w w1) := hb1
  clear hb hb1 hC hG
  go_wp2_with fail
  go_loopw [47] (fun i wr => i = .int .i64 0 ∧ wr = w1) (fun _ _ => 0)
  case atStart => exact ⟨rfl, rfl⟩
  case round =>
    obtain ⟨rfl, rfl⟩ := hrel
    go_wp2_with fail
    go_loopw [10, 11] (fun nv i wr' => nv = .slice none 0 0 ∧ i = .int .i64 0 ∧ wr' = wr) (fun _ _ _ => 0)
    case atStart => exact ⟨rfl, rfl, rfl⟩
    case round =>
      obtain ⟨rfl, rfl, rfl⟩ := hrel
      obtain ⟨w2, rfl⟩ : ∃ w2, w2 = wr := ⟨_, rfl⟩
      have hmk := make0
      have hg2 : (w2.alloc (.cells #[] 4)).cell? ⟨w.heap.size + 1 + 1 + 1, 0, none⟩ = some (.slice none 0 0) := (((Chg.refl (fun _ => False) w2).alloc _).cell (p := ⟨w.heap.size + 1 + 1 + 1, 0, none⟩) hgl id).trans hgc
      go_wp2_with fail
      go_loopw [78] (fun i wr' => i = .int .i64 0 ∧ wr' = w2.alloc (.cells #[] 4)) (fun _ _ => 0)
      case atStart => exact ⟨rfl, rfl⟩
      case round =>
        obtain ⟨rfl, rfl⟩ := hrel
        go_wp2_with fail
        go_ret
        exact ⟨rfl, HB.out.alloc HB.out.size _⟩

end Go.Proofs.Ybulkazxi
