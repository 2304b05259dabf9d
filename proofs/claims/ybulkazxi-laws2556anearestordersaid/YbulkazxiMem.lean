/-
  THE QUEUE IN MEMORY: one block of 960 cells, three cells a candidate.
-/
import Derived.Test.YbulkazxiHeap
namespace Go.Proofs.Ybulkazxi
open Go.RowKit

def rp (c : Cd) : Value := .pointer (some ⟨c.rb, c.ro, none⟩)
def tp (c : Cd) : Value := .pointer (some ⟨c.tb, c.to, none⟩)
def kv (c : Cd) : Value := .float .f64 c.ky

/-- Block R is a row of 960 cells, of which the first 3n are the candidates g. -/
def HAt (w : World) (R n : Nat) (g : Nat → Cd) : Prop :=
  ∃ c t, w.heap[R]? = some (.cells c t (0, 0)) ∧ c.size = 960 ∧ ∀ j, j < n → c[j * 3]? = some (rp (g j)) ∧ c[j * 3 + 1]? = some (tp (g j)) ∧ c[j * 3 + 2]? = some (kv (g j))

theorem cell_block {w : World} {b o : Nat} {cs : Array Value} {t : TypeId} {m : Nat × Nat} (h : w.heap[b]? = some (.cells cs t m)) : w.cell? ⟨b, o, none⟩ = cs[o]? := by
  simp [World.cell?, h]
theorem frozen_block {w : World} {b o : Nat} {cs : Array Value} {t : TypeId} (h : w.heap[b]? = some (.cells cs t (0, 0))) : w.frozen? ⟨b, o, none⟩ = false := by
  simp [World.frozen?, h]
theorem heap_set_same (w : World) (b o : Nat) (v : Value) {cs : Array Value} {t : TypeId} {m : Nat × Nat} (h : w.heap[b]? = some (.cells cs t m)) : (w.setCell ⟨b, o, none⟩ v).heap[b]? = some (.cells (cs.setIfInBounds o v) t m) := by
  simp [World.setCell, Array.getElem?_modify, h]
theorem size_set (w : World) (a : Addr) (u : Value) : (w.setCell a u).heap.size = w.heap.size := by simp [World.setCell]
theorem size_alloc (w : World) (o : Obj) : (w.alloc o).heap.size = w.heap.size + 1 := by simp

namespace HAt
variable {w : World} {R n : Nat} {g : Nat → Cd}

theorem lt (h : HAt w R n g) : R < w.heap.size := by
  obtain ⟨c, t, hb, _⟩ := h
  exact (Array.getElem?_eq_some_iff.1 hb).1
theorem c0 (h : HAt w R n g) {j : Nat} (hj : j < n) : w.cell? ⟨R, j * 3, none⟩ = some (.pointer (some ⟨(g j).rb, (g j).ro, none⟩)) := by
  obtain ⟨c, t, hb, _, hc⟩ := h
  rw [cell_block hb]; exact (hc j hj).1
theorem c1 (h : HAt w R n g) {j : Nat} (hj : j < n) : w.cell? ⟨R, j * 3 + 1, none⟩ = some (.pointer (some ⟨(g j).tb, (g j).to, none⟩)) := by
  obtain ⟨c, t, hb, _, hc⟩ := h
  rw [cell_block hb]; exact (hc j hj).2.1
theorem c2 (h : HAt w R n g) {j : Nat} (hj : j < n) : w.cell? ⟨R, j * 3 + 2, none⟩ = some (.float .f64 (g j).ky) := by
  obtain ⟨c, t, hb, _, hc⟩ := h
  rw [cell_block hb]; exact (hc j hj).2.2
theorem frz (h : HAt w R n g) (o : Nat) : w.frozen? ⟨R, o, none⟩ = false := by
  obtain ⟨c, t, hb, _⟩ := h
  exact frozen_block hb
theorem some (h : HAt w R n g) {o : Nat} (ho : o < 960) : (w.cell? ⟨R, o, none⟩).isSome = true := by
  obtain ⟨c, t, hb, hs, _⟩ := h
  rw [cell_block hb]; simp [hs, ho]
theorem of_block {w' : World} (h : HAt w R n g) (e : w'.heap[R]? = w.heap[R]?) : HAt w' R n g := by
  obtain ⟨c, t, hb, hs, hc⟩ := h
  exact ⟨c, t, e.trans hb, hs, hc⟩
theorem alloc (h : HAt w R n g) (o : Obj) : HAt (w.alloc o) R n g := h.of_block (Below.heap_alloc w o R h.lt)
theorem drewN (h : HAt w R n g) (m : Nat) : HAt (w.drewN m) R n g := h
theorem drew (h : HAt w R n g) : HAt w.drew R n g := h
theorem mono (h : HAt w R n g) {m : Nat} (hm : m ≤ n) : HAt w R m g := by
  obtain ⟨c, t, hb, hs, hc⟩ := h
  exact ⟨c, t, hb, hs, fun j hj => hc j (by omega)⟩
theorem congr (h : HAt w R n g) {g' : Nat → Cd} (e : ∀ j, j < n → g j = g' j) : HAt w R n g' := by
  obtain ⟨c, t, hb, hs, hc⟩ := h
  exact ⟨c, t, hb, hs, fun j hj => by rw [← e j hj]; exact hc j hj⟩

/-- A candidate stored at i. -/
theorem store (h : HAt w R n g) (i : Nat) (x : Cd) {m : Nat} (hi : i < 320) (hm : m ≤ n ∨ (i = n ∧ m = n + 1)) :
    HAt (((w.setCell ⟨R, i * 3, none⟩ (rp x)).setCell ⟨R, i * 3 + 1, none⟩ (tp x)).setCell ⟨R, i * 3 + 2, none⟩ (kv x)) R m (upd g i x) := by
  obtain ⟨c, t, hb, hs, hc⟩ := h
  refine ⟨_, t, heap_set_same _ _ _ _ (heap_set_same _ _ _ _ (heap_set_same _ _ _ _ hb)), by simpa using hs, fun j hj => ?_⟩
  by_cases e : j = i
  · subst e
    rw [upd_same]
    refine ⟨?_, ?_, ?_⟩
    · rw [Array.getElem?_setIfInBounds_ne (by omega), Array.getElem?_setIfInBounds_ne (by omega), Array.getElem?_setIfInBounds_self_of_lt (by omega)]
    · rw [Array.getElem?_setIfInBounds_ne (by omega), Array.getElem?_setIfInBounds_self_of_lt (by simp; omega)]
    · rw [Array.getElem?_setIfInBounds_self_of_lt (by simp; omega)]
  · rw [upd_ne _ _ _ e]
    obtain ⟨h0, h1, h2⟩ := hc j (by omega)
    refine ⟨?_, ?_, ?_⟩
    all_goals
      rw [Array.getElem?_setIfInBounds_ne (by omega), Array.getElem?_setIfInBounds_ne (by omega), Array.getElem?_setIfInBounds_ne (by omega)]
      assumption
end HAt

theorem grown_set {w : World} {R : Nat} (a : Addr) (v : Value) (ha : a.block = R) {w0 : World} (h : w0.grownBy w (some R)) : w0.grownBy (w.setCell a v) (some R) :=
  ⟨h.os, h.tape, h.output, by rw [size_set]; exact h.size, fun k hk hne => by
    rw [Below.heap_setCell _ _ _ _ (by intro e; apply hne; rw [e, ha])]; exact h.block k hk hne⟩
theorem grown_alloc {w w0 : World} {r : Option Nat} (h : w0.grownBy w r) (o : Obj) : w0.grownBy (w.alloc o) r :=
  ⟨h.os, h.tape, h.output, Nat.le_trans h.size (by simp), fun k hk hne => by rw [Below.heap_alloc _ _ _ (Nat.lt_of_lt_of_le hk h.size)]; exact h.block k hk hne⟩
theorem grown_drewN {w w0 : World} {r : Option Nat} (h : w0.grownBy w r) (n : Nat) : w0.grownBy (w.drewN n) r := ⟨h.os, h.tape, h.output, h.size, h.block⟩
theorem grown_drew {w w0 : World} {r : Option Nat} (h : w0.grownBy w r) : w0.grownBy w.drew r := ⟨h.os, h.tape, h.output, h.size, h.block⟩
theorem grown_trans {a b c : World} {r : Option Nat} (h : a.grownBy b r) (k : b.grownBy c r) : a.grownBy c r :=
  ⟨k.os.trans h.os, k.tape.trans h.tape, k.output.trans h.output, Nat.le_trans h.size k.size, fun i hi hne => (k.block i (Nat.lt_of_lt_of_le hi h.size) hne).trans (h.block i hi hne)⟩

/-- Whatever a candidate points to is there and is none of the queue's cells; its key is a number. -/
def Good (w : World) (R : Nat) (c : Cd) : Prop :=
  c.tb < w.heap.size ∧ c.tb ≠ R ∧ w.cell? ⟨c.tb, c.to, none⟩ = some (chp c.ch) ∧ fin c.ky = true

theorem Good.cell {w w' : World} {R : Nat} {c : Cd} (h : Good w R c) (hg : w.grownBy w' (some R)) : w'.cell? ⟨c.tb, c.to, none⟩ = some (chp c.ch) :=
  (World.cell?_of_block (a := ⟨c.tb, c.to, none⟩) (hg.block _ h.1 (by intro e; cases e; exact h.2.1 rfl))).trans h.2.2.1

theorem Good.grown {w w' : World} {R : Nat} {c : Cd} (h : Good w R c) (hg : w.grownBy w' (some R)) : Good w' R c :=
  ⟨Nat.lt_of_lt_of_le h.1 hg.size, h.2.1, h.cell hg, h.2.2.2⟩

/-- The kit has this law for integers, bools, pointers, slices and strings. -/
theorem run_store_float {P : Program} (w : World) (a : Addr) (k : FloatKind) (b : Nat) (m : Mode) : (store a (.float k b) m).run P w = stored P w a (.float k b) m := run_store P w a _ m rfl

end Go.Proofs.Ybulkazxi
