/-
  zzs2552bmask: the mask of k bits, by its own loop.
-/
import Derived.Test.YbulkazveRows
import Derived.WalkKit
import Derived.WalkSpells
import Derived.WalkLawsBesides
import Derived.Deep.QuietTactic
import Derived.BigQuiet
namespace Go.Proofs.Ybulkazve
open Go.RowKit

/-- The mask of k bits, as an int64 holds it. -/
def maskI (k : Nat) : Int := if k < 64 then 2 ^ k - 1 else -1

theorem mask_step_all : ∀ k : Fin 64, bits BinOp.or IntKind.i64 (wrap64 (maskI k.val * 2)) 1 = maskI (k.val + 1) := by decide +kernel
theorem mask_step (k : Nat) (h : k < 64) : bits BinOp.or IntKind.i64 (wrap64 (maskI k * 2)) 1 = maskI (k + 1) := mask_step_all ⟨k, h⟩
theorem mask_top (k n : Nat) (h1 : k ≤ n) (h2 : ¬ k < 64) (h3 : k ≤ 64) : maskI k = maskI n := by
  unfold maskI
  rw [if_neg (by omega), if_neg (by omega)]

theorem ret_i64 {a b : Int} (h : a = b) : Ending.returned (.int .i64 a) = .returned (.int .i64 b) := by rw [h]
theorem val_i64 {a b : Int} (h : a = b) : Value.int .i64 a = .int .i64 b := by rw [h]

set_option maxHeartbeats 400000 in
theorem mask_any (n : Nat) (w : World) (hn : n ≤ 1000000) :
    Calls Yba.prog 6 #[.int .u64 n] w fun e w' => e = .returned (.int .i64 (maskI n)) ∧ w' = w := by
  go_enter Yba.func6, Yba.ntmps6
  go_wp2
  go_loop [3, 4] (fun m i => ∃ k : Nat, k ≤ n ∧ k ≤ 64 ∧ i = .int .u64 k ∧ m = .int .i64 (maskI k)) (fun _ i => n - (intOf i).toNat)
  case atStart => exact ⟨0, Nat.zero_le _, Nat.zero_le _, rfl, rfl⟩
  case round =>
    obtain ⟨k, hk, hk6, rfl, rfl⟩ := hrel
    by_cases hlt : k < n
    · by_cases h64 : k < 64
      · go_wp2
        go_round
        case rel => exact ⟨k + 1, by omega, by omega, by go_num, val_i64 (mask_step k h64)⟩
        case measure => simp [intOf]; omega
      · go_wp2
        go_ret
        exact ⟨ret_i64 (mask_top k n hk h64 hk6), rfl⟩
    · obtain rfl : k = n := by omega
      go_wp2
      go_ret
      exact ⟨rfl, rfl⟩

end Go.Proofs.Ybulkazve
