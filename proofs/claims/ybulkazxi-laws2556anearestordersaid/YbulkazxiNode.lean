/-
  A NODE READ: chainedSlots, slotsUsed, word.Load, slot (no slot is chained).
-/
import Derived.Test.YbulkazxiMem
import Derived.Laws.LoneSync
namespace Go.Proofs.Ybulkazxi
open Go.RowKit

set_option maxHeartbeats 400000 in
theorem load_any (b o : Nat) (x : Int) (w : World) (h : w.cell? ⟨b, o, none⟩ = some (.int .u64 x)) :
    Calls Yba.prog 35 #[.pointer (some ⟨b, o, none⟩)] w fun e w' => e = .returned (.int .u64 x) ∧ w' = w := by
  have hl := run_call_load (P := Yba.prog) Yba.func66 (by kernel_rfl) (by kernel_rfl) (by kernel_rfl) .u64 (by kernel_rfl) h
  go_enter Yba.func35, Yba.ntmps35
  go_wp2
  go_ret
  exact ⟨rfl, rfl⟩

set_option maxHeartbeats 400000 in
theorem chained_any (b : Nat) (x : Int) (w : World) (h : w.cell? ⟨b, 4, none⟩ = some (.int .u64 x)) :
    Calls Yba.prog 32 #[.pointer (some ⟨b, 0, none⟩)] w fun e w' => e = .returned (.int .u64 x) ∧ w' = w := by
  have hl := run_call_load (P := Yba.prog) Yba.func66 (by kernel_rfl) (by kernel_rfl) (by kernel_rfl) .u64 (by kernel_rfl) h
  go_enter Yba.func32, Yba.ntmps32
  go_wp2
  go_ret
  exact ⟨rfl, rfl⟩

set_option maxHeartbeats 400000 in
theorem used_any (b u : Nat) (w : World) (hu : u ≤ 40) (h : w.cell? ⟨b, 3, none⟩ = some (.int .i32 u)) :
    Calls Yba.prog 33 #[.pointer (some ⟨b, 0, none⟩)] w fun e w' => e = .returned (.int .i64 u) ∧ w' = w := by
  have hl := run_call_load (P := Yba.prog) Yba.func64 (by kernel_rfl) (by kernel_rfl) (by kernel_rfl) .i32 (by kernel_rfl) h
  go_enter Yba.func33, Yba.ntmps33
  go_wp2
  go_ret
  exact ⟨rfl, rfl⟩

theorem and_zero (y : Int) : bits BinOp.and IntKind.u64 0 y = 0 := by
  show IntKind.u64.wrap ((BitVec.ofInt 64 0 &&& BitVec.ofInt 64 y).toNat : Int) = 0
  rw [BitVec.toNat_and]
  simp [IntKind.wrap, IntKind.bits, IntKind.signed]

set_option maxHeartbeats 400000 in
theorem slot_any (b i : Nat) (st : Int) (w : World) (hi : i < 40) :
    Calls Yba.prog 34 #[.pointer (some ⟨b, 0, none⟩), .int .i64 i, .int .u64 0, .int .u64 st] w fun e w' =>
      e = .returned (.tuple #[.pointer (some ⟨b, 6 + i * 4, none⟩), .pointer (some ⟨b, 166 + i * 3 + 1, none⟩), .pointer (some ⟨b, 166 + i * 3, none⟩)]) ∧ ∃ n, w' = w.drewN n := by
  have hi' : (i : Int) < 40 := by omega
  have hz := and_zero
  go_enter Yba.func34, Yba.ntmps34
  go_wp2
  go_quiet (fail)
  go_wp2
  go_ret3
  exact ⟨rfl, _, rfl⟩

end Go.Proofs.Ybulkazxi
