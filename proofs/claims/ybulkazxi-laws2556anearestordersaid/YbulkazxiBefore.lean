/-
  (candidates).before: which of two candidates comes first.
-/
import Derived.Test.YbulkazxiRows
import Derived.WalkKit
import Derived.WalkSpells
import Derived.WalkLawsBesides
import Derived.Deep.QuietTactic
import Derived.BigQuiet
namespace Go.Proofs.Ybulkazxi
open Go.RowKit

/-- A candidate: where its rectangle lies, where its target lies, its distance's bits, the block of its child (none: a stored pair). -/
structure Cd where
  rb : Nat
  ro : Nat
  tb : Nat
  to : Nat
  ky : Nat
  ch : Option Nat

def flt (x y : Nat) : Bool := FloatKind.f64.format.order x y == some .lt
def feq (x y : Nat) : Bool := FloatKind.f64.format.order x y == some .eq

def bef (a b : Cd) : Bool := flt a.ky b.ky || (feq a.ky b.ky && a.ch.isNone && b.ch.isSome)

def chp (c : Option Nat) : Value := .pointer (c.map fun b => ⟨b, 0, none⟩)

theorem ret_bool {a b : Bool} (h : a = b) : Ending.returned (.bool a) = .returned (.bool b) := by rw [h]
theorem drewN_two (w : World) (m n : Nat) : (w.drewN m).drewN n = w.drewN (m + n) := World.drewN_drewN ..

set_option maxHeartbeats 1000000 in
theorem before_any (R n cap i j : Nat) (a b : Cd) (w : World) (hi : i < n) (hj : j < n) (_hn : n ≤ 1000)
    (a1 : w.cell? ⟨R, i * 3 + 1, none⟩ = some (.pointer (some ⟨a.tb, a.to, none⟩))) (a2 : w.cell? ⟨R, i * 3 + 2, none⟩ = some (.float .f64 a.ky))
    (b1 : w.cell? ⟨R, j * 3 + 1, none⟩ = some (.pointer (some ⟨b.tb, b.to, none⟩))) (b2 : w.cell? ⟨R, j * 3 + 2, none⟩ = some (.float .f64 b.ky))
    (ac : w.cell? ⟨a.tb, a.to, none⟩ = some (chp a.ch)) (bc : w.cell? ⟨b.tb, b.to, none⟩ = some (chp b.ch)) :
    Calls Yba.prog 38 #[.slice (some ⟨R, 0, none⟩) n cap, .int .i64 i, .int .i64 j] w fun e w' => e = .returned (.bool (bef a b)) ∧ ∃ m, w' = w.drewN m := by
  have hi' : (i : Int) < (n : Int) := by omega
  have hj' : (j : Int) < (n : Int) := by omega
  cases hlt : (FloatKind.f64.format.order a.ky b.ky == some .lt) with
  | true =>
    have hb : bef a b = true := by simp [bef, flt, hlt]
    rw [hb]
    clear hb
    go_enter Yba.func38, Yba.ntmps38
    go_wp2
    go_quiet (fail)
    go_wp2
    go_quiet (fail)
    go_wp2
    go_ret
    exact ⟨rfl, _, drewN_two _ _ _⟩
  | false =>
    cases heq : (FloatKind.f64.format.order a.ky b.ky == some .eq) with
    | false =>
      have hb : bef a b = false := by simp [bef, flt, feq, hlt, heq]
      rw [hb]
      clear hb
      go_enter Yba.func38, Yba.ntmps38
      go_wp2
      go_quiet (fail)
      go_wp2
      go_quiet (fail)
      go_wp2
      go_ret
      exact ⟨rfl, _, drewN_two _ _ _⟩
    | true =>
      cases hac : a.ch with
      | some x =>
        have hb : bef a b = false := by simp [bef, flt, feq, hlt, heq, hac]
        rw [hb]
        have ac' : w.cell? ⟨a.tb, a.to, none⟩ = some (.pointer (some ⟨x, 0, none⟩)) := by rw [ac, hac]; rfl
        clear hb ac hac
        go_enter Yba.func38, Yba.ntmps38
        go_wp2
        go_quiet (fail)
        go_wp2
        go_quiet (fail)
        go_wp2
        go_ret
        exact ⟨rfl, _, drewN_two _ _ _⟩
      | none =>
        have ac' : w.cell? ⟨a.tb, a.to, none⟩ = some (.pointer none) := by rw [ac, hac]; rfl
        cases hbc : b.ch with
        | some x =>
          have hb : bef a b = true := by simp [bef, flt, feq, hlt, heq, hac, hbc]
          rw [hb]
          have bc' : w.cell? ⟨b.tb, b.to, none⟩ = some (.pointer (some ⟨x, 0, none⟩)) := by rw [bc, hbc]; rfl
          clear hb ac hac bc hbc
          go_enter Yba.func38, Yba.ntmps38
          go_wp2
          go_quiet (fail)
          go_wp2
          go_quiet (fail)
          go_wp2
          go_ret
          exact ⟨rfl, _, drewN_two _ _ _⟩
        | none =>
          have hb : bef a b = false := by simp [bef, flt, feq, hlt, heq, hac, hbc]
          rw [hb]
          have bc' : w.cell? ⟨b.tb, b.to, none⟩ = some (.pointer none) := by rw [bc, hbc]; rfl
          clear hb ac hac bc hbc
          go_enter Yba.func38, Yba.ntmps38
          go_wp2
          go_quiet (fail)
          go_wp2
          go_quiet (fail)
          go_wp2
          go_ret
          exact ⟨rfl, _, drewN_two _ _ _⟩

end Go.Proofs.Ybulkazxi
