/-
  THE WALKS OF THE FUNCTIONS THAT ONLY READ: zzs2548bname, (Annotations).Get, stringValue, stringAnnotation, zzs2548bwant.
-/
import Derived.Test.YbulkaztaRows
import Derived.WalkKit
import Derived.WalkSpells
import Derived.WalkLawsBesides
import Derived.Deep.QuietTactic
import Derived.BigQuiet
namespace Go.Proofs.Ybulkazta
open Go.RowKit

/-- The name that a number stands for. -/
def nm (i : Int) : ByteArray :=
  if i % 4 = 0 then ⟨#[112, 97, 116, 104]⟩ else if i % 4 = 1 then ⟨#[113, 117, 101, 114, 121]⟩ else if i % 4 = 2 then ⟨#[120]⟩ else ⟨#[]⟩

theorem ret_str {a b : ByteArray} (h : a = b) : Ending.returned (.string a) = .returned (.string b) := by rw [h]

set_option maxHeartbeats 400000 in
theorem name_any (i : Int) (w : World) (h0 : 0 ≤ i) (h1 : i ≤ 255) :
    Calls Yba.prog 6 #[.int .u8 i] w fun e w' => e = .returned (.string (nm i)) ∧ w' = w := by
  by_cases c0 : i % 4 = 0
  · go_enter Yba.func6, Yba.ntmps6
    go_wp2
    go_ret
    exact ⟨ret_str (by simp [nm, c0]), rfl⟩
  · by_cases c1 : i % 4 = 1
    · go_enter Yba.func6, Yba.ntmps6
      go_wp2
      go_ret
      exact ⟨ret_str (by simp [nm, c1]), rfl⟩
    · by_cases c2 : i % 4 = 2
      · go_enter Yba.func6, Yba.ntmps6
        go_wp2
        go_ret
        exact ⟨ret_str (by simp [nm, c2]), rfl⟩
      · go_enter Yba.func6, Yba.ntmps6
        go_wp2
        go_ret
        exact ⟨ret_str (by simp [nm, c0, c1, c2]), rfl⟩

/-! ### (Annotations).Get -/

set_option maxHeartbeats 400000 in
/-- No annotation bears the name. -/
theorem get_none (L n c : Nat) (ap : Nat → Nat) (ns : Nat → ByteArray) (q : ByteArray) (w : World) (hn : n ≤ 1024)
    (hl : ∀ j, j < n → w.cell? ⟨L, j, none⟩ = some (.pointer (some ⟨ap j, 0, none⟩)))
    (ha : ∀ j, j < n → w.cell? ⟨ap j, 0, none⟩ = some (.string (ns j)))
    (hq : ∀ j, j < n → ((ns j).toList == q.toList) = false) :
    Calls Yba.prog 10 #[.slice (some ⟨L, 0, none⟩) n c, .string q] w fun e w' => e = .returned (.pointer none) ∧ w' = w := by
  go_enter Yba.func10, Yba.ntmps10
  go_wp2
  go_loop [9] (fun i => ∃ k : Nat, k ≤ n ∧ i = .int .i64 k) (fun i => n - (intOf i).toNat)
  case atStart => exact ⟨0, Nat.zero_le _, rfl⟩
  case round =>
    obtain ⟨k, hk, rfl⟩ := hrel
    by_cases hlt : k < n
    · have g1 := hl k hlt
      have g2 := ha k hlt
      have g3 := hq k hlt
      go_wp2
      go_round
      case rel => exact ⟨k + 1, by omega, by go_num⟩
      case measure => simp [intOf]; omega
    · go_wp2
      go_ret
      exact ⟨rfl, rfl⟩

set_option maxHeartbeats 400000 in
/-- Number m is the first annotation that bears the name. -/
theorem get_some (L n c m : Nat) (ap : Nat → Nat) (ns : Nat → ByteArray) (q : ByteArray) (w : World) (hn : n ≤ 1024) (hm : m < n)
    (hl : ∀ j, j < n → w.cell? ⟨L, j, none⟩ = some (.pointer (some ⟨ap j, 0, none⟩)))
    (ha : ∀ j, j < n → w.cell? ⟨ap j, 0, none⟩ = some (.string (ns j)))
    (hq : ∀ j, j < m → ((ns j).toList == q.toList) = false) (hqm : ((ns m).toList == q.toList) = true) :
    Calls Yba.prog 10 #[.slice (some ⟨L, 0, none⟩) n c, .string q] w fun e w' => e = .returned (.pointer (some ⟨ap m, 0, none⟩)) ∧ w' = w := by
  go_enter Yba.func10, Yba.ntmps10
  go_wp2
  go_loop [9] (fun i => ∃ k : Nat, k ≤ m ∧ i = .int .i64 k) (fun i => n - (intOf i).toNat)
  case atStart => exact ⟨0, Nat.zero_le _, rfl⟩
  case round =>
    obtain ⟨k, hk, rfl⟩ := hrel
    have hlt : k < n := by omega
    have g1 := hl k hlt
    have g2 := ha k hlt
    by_cases hkm : k < m
    · have g3 := hq k hkm
      go_wp2
      go_round
      case rel => exact ⟨k + 1, by omega, by go_num⟩
      case measure => simp [intOf]; omega
    · obtain rfl : k = m := by omega
      go_wp2
      go_ret
      exact ⟨rfl, rfl⟩

/-! ### stringValue -/

set_option maxHeartbeats 400000 in
theorem sv_none (L n c : Nat) (ap : Nat → Nat) (ns : Nat → ByteArray) (q : ByteArray) (w : World) (hn : n ≤ 1024)
    (hl : ∀ j, j < n → w.cell? ⟨L, j, none⟩ = some (.pointer (some ⟨ap j, 0, none⟩)))
    (ha : ∀ j, j < n → w.cell? ⟨ap j, 0, none⟩ = some (.string (ns j)))
    (hq : ∀ j, j < n → ((ns j).toList == q.toList) = false) :
    Calls Yba.prog 8 #[.slice (some ⟨L, 0, none⟩) n c, .string q] w fun e w' => e = .returned (.pointer none) ∧ w' = w := by
  go_enter Yba.func8, Yba.ntmps8
  go_wp2_with (go_at_call 10; refine (get_none L n c ap ns q _ hn hl ha hq).mono ?_; rintro e w' ⟨rfl, rfl⟩)
  go_ret
  exact ⟨rfl, rfl⟩

set_option maxHeartbeats 400000 in
/-- The first annotation of the name has no value. -/
theorem sv_bare (L n c m : Nat) (ap : Nat → Nat) (ns : Nat → ByteArray) (q : ByteArray) (w : World) (hn : n ≤ 1024) (hm : m < n)
    (hl : ∀ j, j < n → w.cell? ⟨L, j, none⟩ = some (.pointer (some ⟨ap j, 0, none⟩)))
    (ha : ∀ j, j < n → w.cell? ⟨ap j, 0, none⟩ = some (.string (ns j)))
    (hq : ∀ j, j < m → ((ns j).toList == q.toList) = false) (hqm : ((ns m).toList == q.toList) = true)
    (hv : w.cell? ⟨ap m, 4, none⟩ = some (.pointer none)) :
    Calls Yba.prog 8 #[.slice (some ⟨L, 0, none⟩) n c, .string q] w fun e w' => e = .returned (.pointer none) ∧ w' = w := by
  go_enter Yba.func8, Yba.ntmps8
  go_wp2_with (go_at_call 10; refine (get_some L n c m ap ns q _ hn hm hl ha hq hqm).mono ?_; rintro e w' ⟨rfl, rfl⟩)
  go_ret
  exact ⟨rfl, rfl⟩

set_option maxHeartbeats 400000 in
/-- The first annotation of the name has a value that is no string. -/
theorem sv_other (L n c m : Nat) (ap : Nat → Nat) (ns : Nat → ByteArray) (q : ByteArray) (w : World) (hn : n ≤ 1024) (hm : m < n)
    (hl : ∀ j, j < n → w.cell? ⟨L, j, none⟩ = some (.pointer (some ⟨ap j, 0, none⟩)))
    (ha : ∀ j, j < n → w.cell? ⟨ap j, 0, none⟩ = some (.string (ns j)))
    (hq : ∀ j, j < m → ((ns j).toList == q.toList) = false) (hqm : ((ns m).toList == q.toList) = true) (v : Nat) (kd : Int)
    (hv : w.cell? ⟨ap m, 4, none⟩ = some (.pointer (some ⟨v, 0, none⟩))) (hkd : w.cell? ⟨v, 0, none⟩ = some (.int .i64 kd)) (hk1 : (kd == 1) = false) :
    Calls Yba.prog 8 #[.slice (some ⟨L, 0, none⟩) n c, .string q] w fun e w' => e = .returned (.pointer none) ∧ w' = w := by
  go_enter Yba.func8, Yba.ntmps8
  go_wp2_with (go_at_call 10; refine (get_some L n c m ap ns q _ hn hm hl ha hq hqm).mono ?_; rintro e w' ⟨rfl, rfl⟩)
  go_ret
  exact ⟨rfl, rfl⟩

set_option maxHeartbeats 400000 in
/-- The first annotation of the name has a string. -/
theorem sv_string (L n c m : Nat) (ap : Nat → Nat) (ns : Nat → ByteArray) (q : ByteArray) (w : World) (hn : n ≤ 1024) (hm : m < n)
    (hl : ∀ j, j < n → w.cell? ⟨L, j, none⟩ = some (.pointer (some ⟨ap j, 0, none⟩)))
    (ha : ∀ j, j < n → w.cell? ⟨ap j, 0, none⟩ = some (.string (ns j)))
    (hq : ∀ j, j < m → ((ns j).toList == q.toList) = false) (hqm : ((ns m).toList == q.toList) = true) (v : Nat)
    (hv : w.cell? ⟨ap m, 4, none⟩ = some (.pointer (some ⟨v, 0, none⟩))) (hkd : w.cell? ⟨v, 0, none⟩ = some (.int .i64 1)) :
    Calls Yba.prog 8 #[.slice (some ⟨L, 0, none⟩) n c, .string q] w fun e w' => e = .returned (.pointer (some ⟨v, 0, none⟩)) ∧ w' = w := by
  go_enter Yba.func8, Yba.ntmps8
  go_wp2_with (go_at_call 10; refine (get_some L n c m ap ns q _ hn hm hl ha hq hqm).mono ?_; rintro e w' ⟨rfl, rfl⟩)
  go_ret
  exact ⟨rfl, rfl⟩

/-! ### zzs2548bwant: the slice 'in' lies at ⟨b, off⟩, four cells an element; 'vals' at ⟨V, 0⟩ -/

set_option maxHeartbeats 400000 in
theorem want_none (b off n c V c2 : Nat) (xn : Nat → Int) (q : ByteArray) (w : World) (hn : n ≤ 1024)
    (h0 : ∀ j, j < n → w.cell? ⟨b, off + j * 4, none⟩ = some (.int .u8 (xn j))) (hx : ∀ j, j < n → 0 ≤ xn j ∧ xn j ≤ 255)
    (hq : ∀ j, j < n → ((nm (xn j)).toList == q.toList) = false) :
    Calls Yba.prog 7 #[.slice (some ⟨b, off, none⟩) n c, .slice (some ⟨V, 0, none⟩) n c2, .string q] w fun e w' => e = .returned (.pointer none) ∧ w' = w := by
  go_enter Yba.func7, Yba.ntmps7
  go_wp2
  go_loop [11] (fun i => ∃ k : Nat, k ≤ n ∧ i = .int .i64 k) (fun i => n - (intOf i).toNat)
  case atStart => exact ⟨0, Nat.zero_le _, rfl⟩
  case round =>
    obtain ⟨k, hk, rfl⟩ := hrel
    by_cases hlt : k < n
    · have g1 := h0 k hlt
      obtain ⟨x0, x1⟩ := hx k hlt
      have g3 := hq k hlt
      go_wp2_with (go_at_call 6; refine (name_any _ _ x0 x1).mono ?_; rintro e w' ⟨rfl, rfl⟩)
      go_round
      case rel => exact ⟨k + 1, by omega, by go_num⟩
      case measure => simp [intOf]; omega
    · go_wp2
      go_ret
      exact ⟨rfl, rfl⟩

set_option maxHeartbeats 400000 in
theorem want_bare (b off n c V c2 m : Nat) (xn : Nat → Int) (q : ByteArray) (w : World) (hn : n ≤ 1024) (hm : m < n)
    (h0 : ∀ j, j < n → w.cell? ⟨b, off + j * 4, none⟩ = some (.int .u8 (xn j))) (hx : ∀ j, j < n → 0 ≤ xn j ∧ xn j ≤ 255)
    (hq : ∀ j, j < m → ((nm (xn j)).toList == q.toList) = false) (hqm : ((nm (xn m)).toList == q.toList) = true)
    (hv : w.cell? ⟨V, m, none⟩ = some (.pointer none)) :
    Calls Yba.prog 7 #[.slice (some ⟨b, off, none⟩) n c, .slice (some ⟨V, 0, none⟩) n c2, .string q] w fun e w' => e = .returned (.pointer none) ∧ w' = w := by
  go_enter Yba.func7, Yba.ntmps7
  go_wp2
  go_loop [11] (fun i => ∃ k : Nat, k ≤ m ∧ i = .int .i64 k) (fun i => n - (intOf i).toNat)
  case atStart => exact ⟨0, Nat.zero_le _, rfl⟩
  case round =>
    obtain ⟨k, hk, rfl⟩ := hrel
    have hlt : k < n := by omega
    have g1 := h0 k hlt
    obtain ⟨x0, x1⟩ := hx k hlt
    by_cases hkm : k < m
    · have g3 := hq k hkm
      go_wp2_with (go_at_call 6; refine (name_any _ _ x0 x1).mono ?_; rintro e w' ⟨rfl, rfl⟩)
      go_round
      case rel => exact ⟨k + 1, by omega, by go_num⟩
      case measure => simp [intOf]; omega
    · obtain rfl : k = m := by omega
      go_wp2_with (go_at_call 6; refine (name_any _ _ x0 x1).mono ?_; rintro e w' ⟨rfl, rfl⟩)
      go_ret
      exact ⟨rfl, rfl⟩

set_option maxHeartbeats 400000 in
theorem want_other (b off n c V c2 m : Nat) (xn : Nat → Int) (q : ByteArray) (w : World) (hn : n ≤ 1024) (hm : m < n)
    (h0 : ∀ j, j < n → w.cell? ⟨b, off + j * 4, none⟩ = some (.int .u8 (xn j))) (hx : ∀ j, j < n → 0 ≤ xn j ∧ xn j ≤ 255)
    (hq : ∀ j, j < m → ((nm (xn j)).toList == q.toList) = false) (hqm : ((nm (xn m)).toList == q.toList) = true) (v : Nat) (kd : Int)
    (hv : w.cell? ⟨V, m, none⟩ = some (.pointer (some ⟨v, 0, none⟩))) (hkd : w.cell? ⟨v, 0, none⟩ = some (.int .i64 kd)) (hk1 : (kd == 1) = false) :
    Calls Yba.prog 7 #[.slice (some ⟨b, off, none⟩) n c, .slice (some ⟨V, 0, none⟩) n c2, .string q] w fun e w' => e = .returned (.pointer none) ∧ w' = w := by
  go_enter Yba.func7, Yba.ntmps7
  go_wp2
  go_loop [11] (fun i => ∃ k : Nat, k ≤ m ∧ i = .int .i64 k) (fun i => n - (intOf i).toNat)
  case atStart => exact ⟨0, Nat.zero_le _, rfl⟩
  case round =>
    obtain ⟨k, hk, rfl⟩ := hrel
    have hlt : k < n := by omega
    have g1 := h0 k hlt
    obtain ⟨x0, x1⟩ := hx k hlt
    by_cases hkm : k < m
    · have g3 := hq k hkm
      go_wp2_with (go_at_call 6; refine (name_any _ _ x0 x1).mono ?_; rintro e w' ⟨rfl, rfl⟩)
      go_round
      case rel => exact ⟨k + 1, by omega, by go_num⟩
      case measure => simp [intOf]; omega
    · obtain rfl : k = m := by omega
      go_wp2_with (go_at_call 6; refine (name_any _ _ x0 x1).mono ?_; rintro e w' ⟨rfl, rfl⟩)
      go_ret
      exact ⟨rfl, rfl⟩

set_option maxHeartbeats 400000 in
theorem want_string (b off n c V c2 m : Nat) (xn : Nat → Int) (q : ByteArray) (w : World) (hn : n ≤ 1024) (hm : m < n)
    (h0 : ∀ j, j < n → w.cell? ⟨b, off + j * 4, none⟩ = some (.int .u8 (xn j))) (hx : ∀ j, j < n → 0 ≤ xn j ∧ xn j ≤ 255)
    (hq : ∀ j, j < m → ((nm (xn j)).toList == q.toList) = false) (hqm : ((nm (xn m)).toList == q.toList) = true) (v : Nat)
    (hv : w.cell? ⟨V, m, none⟩ = some (.pointer (some ⟨v, 0, none⟩))) (hkd : w.cell? ⟨v, 0, none⟩ = some (.int .i64 1)) :
    Calls Yba.prog 7 #[.slice (some ⟨b, off, none⟩) n c, .slice (some ⟨V, 0, none⟩) n c2, .string q] w fun e w' => e = .returned (.pointer (some ⟨v, 0, none⟩)) ∧ w' = w := by
  go_enter Yba.func7, Yba.ntmps7
  go_wp2
  go_loop [11] (fun i => ∃ k : Nat, k ≤ m ∧ i = .int .i64 k) (fun i => n - (intOf i).toNat)
  case atStart => exact ⟨0, Nat.zero_le _, rfl⟩
  case round =>
    obtain ⟨k, hk, rfl⟩ := hrel
    have hlt : k < n := by omega
    have g1 := h0 k hlt
    obtain ⟨x0, x1⟩ := hx k hlt
    by_cases hkm : k < m
    · have g3 := hq k hkm
      go_wp2_with (go_at_call 6; refine (name_any _ _ x0 x1).mono ?_; rintro e w' ⟨rfl, rfl⟩)
      go_round
      case rel => exact ⟨k + 1, by omega, by go_num⟩
      case measure => simp [intOf]; omega
    · obtain rfl : k = m := by omega
      go_wp2_with (go_at_call 6; refine (name_any _ _ x0 x1).mono ?_; rintro e w' ⟨rfl, rfl⟩)
      go_ret
      exact ⟨rfl, rfl⟩

end Go.Proofs.Ybulkazta
