/-
  'idl.LawS2548AErrorJoin': THE WALKS: what each call on her road does.
-/
import Derived.Test.YbulkaztaFmtRows
import Derived.Test.YbulkaztaFmtCards
import Derived.WalkKit
import Derived.WalkSpells
import Derived.WalkLawsBesides
import Derived.ProofKit
import Derived.Deep.QuietTactic
import Derived.BigQuiet
import Derived.Deep.RegionWith
import Derived.Stop.JoinedAt
import Derived.Stop.Texts
import Derived.Stop.JoinedTold
import Derived.SizedLaws
import Derived.SevenToldRow
namespace Go.Proofs.YbulkaztaFmt
open Go.ChangeShapes Go.WideShapes Go.ChangeAt Go.RowKit Go.Kit
open Go.ChangeMaps (open_string shut_string)
open Go.Extern.Stop Go.Stop Go.Extern

set_option maxHeartbeats 400000 in
theorem walk_zero (msg : ByteArray) (w : World) :
    Calls Ybaf.prog 4 #[.string ⟨#[]⟩, .int .i64 0, .string msg] w fun e w' => e = .returned (.bool true) ∧ Below w.heap.size w w' := by
  go_enter Ybaf.func4, Ybaf.ntmps4
  go_wp2
  go_ret
  exact ⟨by simp, ((Below.refl _ _).alloc (Nat.le_refl _) _).alloc (by simp) _⟩

set_option maxHeartbeats 400000 in
theorem string_zero (f : ByteArray) (c : Int) (w : World) :
    Calls Ybaf.prog 5 #[.agg #[.string f, .int .i64 0, .int .i64 c]] w fun e w' => e = .returned (.string f) ∧ Below w.heap.size w w' := by
  go_enter Ybaf.func5, Ybaf.ntmps5
  go_wp2
  go_ret
  exact ⟨rfl, (Below.refl _ _).alloc (Nat.le_refl _) _⟩

set_option maxHeartbeats 400000 in
theorem error_join (b : Nat) (f msg : ByteArray) (c : Int) (w : World) (hne : (f.toList.isEmpty && c == 0) = false)
    (hf : f.size ≤ 140737488355328) (hm : msg.size ≤ 140737488355328)
    (h0 : w.cell? ⟨b, 0, none⟩ = some (.string f)) (h1 : w.cell? ⟨b, 1, none⟩ = some (.int .i64 0)) (h2 : w.cell? ⟨b, 2, none⟩ = some (.int .i64 c)) (h3 : w.cell? ⟨b, 3, none⟩ = some (.string msg)) :
    Calls Ybaf.prog 6 #[.pointer (some ⟨b, 0, none⟩)] w fun e w' => e = .returned (.string (f ++ ⟨#[58, 32]⟩ ++ msg)) ∧ Below w.heap.size w w' := by
  have hbs : b < w.heap.size := by
    rcases Nat.lt_or_ge b w.heap.size with h | h
    · exact h
    · simp [World.cell?, Array.getElem?_eq_none h] at h0
  have hz1 : ¬ 9223372036854775807 < f.size + 2 := by omega
  have hz2 : ¬ 9223372036854775807 < f.size + 2 + msg.size := by omega
  go_enter Ybaf.func6, Ybaf.ntmps6
  go_wp2
  · rename_i e1 e2
    simp [e1, e2] at hne
  all_goals (go_region_with (go_at_call 5; refine (string_zero f c _).mono ?_; rintro e w' ⟨rfl, hb⟩; have hc3 : w'.cell? ⟨b, 3, none⟩ = some (.string msg) := (hb.cell (p := ⟨b, 3, none⟩) hbs).trans h3))
  all_goals (go_wp2; go_ret; exact ⟨rfl, ((Below.refl _ w).drew).trans hb⟩)

set_option maxHeartbeats 400000 in
theorem walk_join (f msg : ByteArray) (c : Int) (w : World) (hne : (f.toList.isEmpty && c == 0) = false)
    (hf : f.size ≤ 140737488355328) (hm : msg.size ≤ 140737488355328) :
    Calls Ybaf.prog 4 #[.string f, .int .i64 c, .string msg] w fun e w' => e = .returned (.bool true) ∧ Below w.heap.size w w' := by
  have hz1 : ¬ 9223372036854775807 < f.size + 2 := by omega
  have hz2 : ¬ 9223372036854775807 < f.size + 2 + msg.size := by omega
  go_enter Ybaf.func4, Ybaf.ntmps4
  go_wp2_with (go_at_call 6; refine (error_join _ f msg c _ hne hf hm ?_ ?_ ?_ ?_).mono ?_)
  case refine_1 | refine_2 | refine_3 | refine_4 => simp [go_sem]
  rintro e w' ⟨rfl, hb⟩
  go_wp2
  · rename_i e1 e2
    simp [e1, e2] at hne
  all_goals
    go_ret
    exact ⟨rfl, (((Below.refl _ w).alloc (Nat.le_refl _) _).alloc (by simp) _).trans (hb.mono (by simp; omega))⟩

end Go.Proofs.YbulkaztaFmt
