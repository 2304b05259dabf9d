/-
  zzs2548bbuild: WHAT IT BUILDS: the list of annotations and the list of their values, one block or two a round.
-/
import Derived.Test.YbulkaztaReads
import Derived.Deep.OwnRows
import Derived.Lib.JoinLaws
import Derived.RegionTactic
import Derived.BigRegion
import Derived.ChangeAlike
namespace Go.Proofs.Ybulkazta
open Go.RowKit

theorem Yba.info41 : (Yba.prog.info? 41).map (fun i => (i.zero, i.size, i.bytes)) = some (some (.pointer none), 1, 8) := by kernel_rfl
theorem Yba.info29 : (Yba.prog.info? 29).map (fun i => (i.zero, i.size, i.bytes)) = some (some (.pointer none), 1, 8) := by kernel_rfl

def ptrs (ap : Nat → Nat) (k : Nat) : List Value := (List.range k).map fun j => .pointer (some ⟨ap j, 0, none⟩)
def optr (o : Option Nat) : Value := .pointer (o.map fun v => ⟨v, 0, none⟩)
def annObj (x : Int) (o : Option Nat) : Obj := .cells #[.string (nm x), .string ⟨#[]⟩, .int .i64 0, .int .i64 0, optr o] 45
def valObj (kd : Int) (t : ByteArray) : Obj := .cells #[.int .i64 (kd % 6), .string ⟨#[]⟩, .int .i64 0, .int .i64 0, .string t, .string ⟨#[]⟩] 37

/-- After k rounds: 'list' lies in block B, 'vals' in block B + 1; annotation j in block 'ap j', its value (if any) in block 'vp j'. -/
structure Built (w wr : World) (B n k : Nat) (xn xk : Nat → Int) (xh : Nat → Bool) (xt : Nat → ByteArray) (ap : Nat → Nat) (vp : Nat → Option Nat) : Prop where
  below : Below B w wr
  own : wr.ownsRow B 41 1 (.slice (some ⟨B, 0, none⟩) k n) k (ptrs ap k)
  row : wr.rowIs (B + 1) 29 n (fun j => if j < k then optr (vp j) else .pointer none)
  ann : ∀ j, j < k → B + 2 ≤ ap j ∧ wr.heap[ap j]? = some (annObj (xn j) (vp j))
  bare : ∀ j, j < k → xh j = false → vp j = none
  full : ∀ j, j < k → xh j = true → ∃ v, vp j = some v ∧ B + 2 ≤ v ∧ wr.heap[v]? = some (valObj (xk j) (xt j))

def upd {α : Type} (f : Nat → α) (k : Nat) (a : α) : Nat → α := fun j => if j = k then a else f j

theorem upd_same {α : Type} (f : Nat → α) (k : Nat) (a : α) : upd f k a k = a := by simp [upd]
theorem upd_lt {α : Type} (f : Nat → α) (k : Nat) (a : α) {j : Nat} (h : j < k) : upd f k a j = f j := by
  unfold upd; rw [if_neg (by omega)]

theorem ptrs_succ (ap : Nat → Nat) (k a : Nat) : ptrs (upd ap k a) (k + 1) = ptrs ap k ++ [.pointer (some ⟨a, 0, none⟩)] := by
  unfold ptrs
  rw [List.range_succ, List.map_append]
  congr 1
  · apply List.map_congr_left
    intro j hj
    rw [upd_lt _ _ _ (List.mem_range.1 hj)]
  · simp [upd_same]

theorem lt_of_block {w : World} {j : Nat} {o : Obj} (h : w.heap[j]? = some o) : j < w.heap.size := (Array.getElem?_eq_some_iff.1 h).1

/-- One round. -/
theorem Built.next {w wr w1 : World} {B n k : Nat} {xn xk : Nat → Int} {xh : Nat → Bool} {xt : Nat → ByteArray} {ap : Nat → Nat} {vp : Nat → Option Nat}
    (h : Built w wr B n k xn xk xh xt ap vp) (a : Nat) (o : Option Nat)
    (hkept : ∀ j, j < wr.heap.size → j ≠ B → j ≠ B + 1 → w1.heap[j]? = wr.heap[j]?)
    (hbel : Below B w w1)
    (hown : w1.ownsRow B 41 1 (.slice (some ⟨B, 0, none⟩) (k + 1) n) (k + 1) (ptrs ap k ++ [.pointer (some ⟨a, 0, none⟩)]))
    (hrow : w1.rowIs (B + 1) 29 n (fun j => if j = k then optr o else if j < k then optr (vp j) else .pointer none))
    (ha : B + 2 ≤ a) (hann : w1.heap[a]? = some (annObj (xn k) o))
    (hbare : xh k = false → o = none) (hfull : xh k = true → ∃ v, o = some v ∧ B + 2 ≤ v ∧ w1.heap[v]? = some (valObj (xk k) (xt k))) :
    Built w w1 B n (k + 1) xn xk xh xt (upd ap k a) (upd vp k o) := by
  refine ⟨hbel, by rw [ptrs_succ]; exact hown, hrow.congr fun j hj => ?_, fun j hj => ?_, fun j hj hx => ?_, fun j hj hx => ?_⟩
  · by_cases e : j = k
    · subst e; simp [upd_same]
    · by_cases e2 : j < k
      · rw [if_neg e, if_pos e2, if_pos (by omega), upd_lt _ _ _ e2]
      · rw [if_neg e, if_neg e2, if_neg (by omega)]
  · by_cases e : j = k
    · subst e; rw [upd_same, upd_same]; exact ⟨ha, hann⟩
    · have e2 : j < k := by omega
      rw [upd_lt _ _ _ e2, upd_lt _ _ _ e2]
      obtain ⟨p1, p2⟩ := h.ann j e2
      exact ⟨p1, (hkept _ (lt_of_block p2) (by omega) (by omega)).trans p2⟩
  · by_cases e : j = k
    · subst e; rw [upd_same]; exact hbare hx
    · have e2 : j < k := by omega
      rw [upd_lt _ _ _ e2]; exact h.bare j e2 hx
  · by_cases e : j = k
    · subst e; rw [upd_same]; exact hfull hx
    · have e2 : j < k := by omega
      rw [upd_lt _ _ _ e2]
      obtain ⟨v, p0, p1, p2⟩ := h.full j e2 hx
      exact ⟨v, p0, p1, (hkept _ (lt_of_block p2) (by omega) (by omega)).trans p2⟩

theorem heap_set_other (w : World) (a : Addr) (u : Value) (j : Nat) (h : j ≠ a.block) : (w.setCell a u).heap[j]? = w.heap[j]? := Below.heap_setCell w a u j h
theorem size_set (w : World) (a : Addr) (u : Value) : (w.setCell a u).heap.size = w.heap.size := by simp [World.setCell]
theorem size_alloc (w : World) (o : Obj) : (w.alloc o).heap.size = w.heap.size + 1 := by simp

/-- A round whose annotation has no value. -/
theorem Built.step_bare {w wr w1 : World} {B n k : Nat} {xn xk : Nat → Int} {xh : Nat → Bool} {xt : Nat → ByteArray} {ap : Nat → Nat} {vp : Nat → Option Nat}
    (h : Built w wr B n k xn xk xh xt ap vp) (hx : xh k = false) (S : Obj)
    (hown : w1.ownsRow B 41 1 (.slice (some ⟨B, 0, none⟩) (k + 1) n) (k + 1) (ptrs ap k ++ [.pointer (some ⟨wr.heap.size, 0, none⟩)]))
    (hg : (((wr.setCell ⟨B + 1, k, none⟩ (.pointer none)).alloc (annObj (xn k) none)).alloc S).grownBy w1 (some B)) :
    Built w w1 B n (k + 1) xn xk xh xt (upd ap k wr.heap.size) (upd vp k none) := by
  have hs : B + 1 < wr.heap.size := h.row.lt
  have hblk : ∀ j, j < wr.heap.size → j ≠ B → j ≠ B + 1 → w1.heap[j]? = wr.heap[j]? := fun j hj h1 h2 => by
    rw [hg.block j (by rw [size_alloc, size_alloc, size_set]; omega) (by simpa using h1), Below.heap_alloc _ _ _ (by rw [size_alloc, size_set]; omega), Below.heap_alloc _ _ _ (by rw [size_set]; omega), heap_set_other _ _ _ _ h2]
  refine h.next wr.heap.size none hblk ?_ hown ?_ (by omega) ?_ (fun _ => rfl) (fun e => by rw [hx] at e; cases e)
  · refine Below.grown ?_ hg (by rw [size_alloc, size_alloc, size_set]; omega) (fun j e => by cases e; exact Nat.le_refl _)
    exact ((h.below.setCell (by simp) _).alloc (by rw [size_set]; omega) _).alloc (by rw [size_alloc, size_set]; omega) _
  · have r := h.row.set k (.pointer none)
    refine ((r.alloc (annObj (xn k) none)).alloc S).of_block (hg.block _ (by rw [size_alloc, size_alloc, size_set]; omega) (by simp))
  · rw [hg.block _ (by rw [size_alloc, size_alloc, size_set]; omega) (by simp; omega), Below.heap_alloc _ _ _ (by rw [size_alloc, size_set]; omega)]
    have := heap_alloc_new (wr.setCell ⟨B + 1, k, none⟩ (.pointer none)) (annObj (xn k) none)
    rwa [size_set] at this

/-- A round whose annotation has a value. -/
theorem Built.step_full {w wr w1 : World} {B n k : Nat} {xn xk : Nat → Int} {xh : Nat → Bool} {xt : Nat → ByteArray} {ap : Nat → Nat} {vp : Nat → Option Nat}
    (h : Built w wr B n k xn xk xh xt ap vp) (hx : xh k = true) (S : Obj)
    (hown : w1.ownsRow B 41 1 (.slice (some ⟨B, 0, none⟩) (k + 1) n) (k + 1) (ptrs ap k ++ [.pointer (some ⟨wr.heap.size + 1, 0, none⟩)]))
    (hg : ((((wr.setCell ⟨B + 1, k, none⟩ (.pointer (some ⟨wr.heap.size, 0, none⟩))).alloc (valObj (xk k) (xt k))).alloc (annObj (xn k) (some wr.heap.size))).alloc S).grownBy w1 (some B)) :
    Built w w1 B n (k + 1) xn xk xh xt (upd ap k (wr.heap.size + 1)) (upd vp k (some wr.heap.size)) := by
  have hs : B + 1 < wr.heap.size := h.row.lt
  have hblk : ∀ j, j < wr.heap.size → j ≠ B → j ≠ B + 1 → w1.heap[j]? = wr.heap[j]? := fun j hj h1 h2 => by
    rw [hg.block j (by rw [size_alloc, size_alloc, size_alloc, size_set]; omega) (by simpa using h1), Below.heap_alloc _ _ _ (by rw [size_alloc, size_alloc, size_set]; omega), Below.heap_alloc _ _ _ (by rw [size_alloc, size_set]; omega),
      Below.heap_alloc _ _ _ (by rw [size_set]; omega), heap_set_other _ _ _ _ h2]
  refine h.next (wr.heap.size + 1) (some wr.heap.size) hblk ?_ hown ?_ (by omega) ?_ (fun e => by rw [hx] at e; cases e) (fun _ => ⟨wr.heap.size, rfl, by omega, ?_⟩)
  · refine Below.grown ?_ hg (by rw [size_alloc, size_alloc, size_alloc, size_set]; omega) (fun j e => by cases e; exact Nat.le_refl _)
    exact (((h.below.setCell (by simp) _).alloc (by rw [size_set]; omega) _).alloc (by rw [size_alloc, size_set]; omega) _).alloc (by rw [size_alloc, size_alloc, size_set]; omega) _
  · have r := h.row.set k (.pointer (some ⟨wr.heap.size, 0, none⟩))
    refine (((r.alloc (valObj (xk k) (xt k))).alloc (annObj (xn k) (some wr.heap.size))).alloc S).of_block (hg.block _ (by rw [size_alloc, size_alloc, size_alloc, size_set]; omega) (by simp))
  · rw [hg.block _ (by rw [size_alloc, size_alloc, size_alloc, size_set]; omega) (by simp; omega), Below.heap_alloc _ _ _ (by rw [size_alloc, size_alloc, size_set]; omega)]
    have := heap_alloc_new ((wr.setCell ⟨B + 1, k, none⟩ (.pointer (some ⟨wr.heap.size, 0, none⟩))).alloc (valObj (xk k) (xt k))) (annObj (xn k) (some wr.heap.size))
    rwa [size_alloc, size_set] at this
  · rw [hg.block _ (by rw [size_alloc, size_alloc, size_alloc, size_set]; omega) (by simp; omega), Below.heap_alloc _ _ _ (by rw [size_alloc, size_alloc, size_set]; omega), Below.heap_alloc _ _ _ (by rw [size_alloc, size_set]; omega)]
    have := heap_alloc_new (wr.setCell ⟨B + 1, k, none⟩ (.pointer (some ⟨wr.heap.size, 0, none⟩))) (valObj (xk k) (xt k))
    rwa [size_set] at this

theorem own_set_other {w : World} {B e z : Nat} {v : Value} {n : Nat} {xs : List Value} (h : w.ownsRow B e z v n xs) (a : Addr) (u : Value) (hv : v.ownBlock ≠ some a.block) : (w.setCell a u).ownsRow B e z v n xs :=
  h.kept (row := some a.block) ⟨rfl, rfl, rfl, by rw [size_set]; exact Nat.le_refl _, fun j _ hne => heap_set_other w a u j (by simpa using hne)⟩ (.inr hv)

theorem grown_drew {w w1 : World} {r : Option Nat} (h : w.drew.grownBy w1 r) : w.grownBy w1 r := ⟨h.os, h.tape, h.output, h.size, h.block⟩

/-- Ahead of the first round. -/
theorem Built.start (w : World) (n : Nat) (hn : n ≤ 1024) (xn xk : Nat → Int) (xh : Nat → Bool) (xt : Nat → ByteArray) (ap : Nat → Nat) (vp : Nat → Option Nat) :
    Built w ((w.alloc (.cells (madeCells #[.pointer none] n) 41)).alloc (.cells (madeCells #[.pointer none] n) 29)) w.heap.size n 0 xn xk xh xt ap vp := by
  refine ⟨((Below.refl _ w).alloc (Nat.le_refl _) _).alloc (by simp) _, ?_, ?_, fun j hj => by omega, fun j hj => by omega, fun j hj => by omega⟩
  · exact (World.ownsRow_made w (madeCells #[.pointer none] n) n (Nat.le_refl _) (by unfold maxLen; omega) (by rw [size_madeCells]; omega)).alloc _
  · have := World.rowIs_made (w.alloc (.cells (madeCells #[.pointer none] n) 41)) (.pointer none) n 29
    rw [size_alloc] at this
    exact this.congr fun i hi => by simp

end Go.Proofs.Ybulkazta
