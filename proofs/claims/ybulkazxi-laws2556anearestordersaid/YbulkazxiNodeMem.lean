/-
  A NODE IN MEMORY: one block of 326 cells.
-/
import Derived.Test.YbulkazxiRect
namespace Go.Proofs.Ybulkazxi
open Go.RowKit

/-- A rectangle's four floats, as bits. -/
structure R4 where
  a : Nat
  b : Nat
  c : Nat
  d : Nat

/-- What a node holds: its mark, its count, and of each slot the rectangle, the child and the item. -/
structure Nd where
  leaf : Bool
  used : Int
  rect : Nat → R4
  child : Nat → Option Nat
  item : Nat → Int

def Slot (c : Array Value) (N : Nd) (i : Nat) : Prop :=
  c[6 + i * 4]? = some (.float .f64 (N.rect i).a) ∧ c[6 + i * 4 + 1]? = some (.float .f64 (N.rect i).b) ∧ c[6 + i * 4 + 2]? = some (.float .f64 (N.rect i).c) ∧ c[6 + i * 4 + 3]? = some (.float .f64 (N.rect i).d) ∧
  c[166 + i * 3]? = some (.int .u64 0) ∧ c[166 + i * 3 + 1]? = some (chp (N.child i)) ∧ c[166 + i * 3 + 2]? = some (.int .i64 (N.item i))

def NodeAt (w : World) (b : Nat) (N : Nd) : Prop :=
  ∃ c, w.heap[b]? = some (.cells c 60 (0, 0)) ∧ c.size = 326 ∧ c[0]? = some (.bool N.leaf) ∧ c[3]? = some (.int .i32 N.used) ∧ c[4]? = some (.int .u64 0) ∧ ∀ i, i < 40 → Slot c N i

def nd0 (leaf : Bool) : Nd := { leaf := leaf, used := 0, rect := fun _ => ⟨0, 0, 0, 0⟩, child := fun _ => none, item := fun _ => 0 }

/-! ### The zero node -/
def isF0 : Option Value → Bool
  | some (.float .f64 0) => true
  | _ => false
def isU0 : Option Value → Bool
  | some (.int .u64 0) => true
  | _ => false
def isP0 : Option Value → Bool
  | some (.pointer none) => true
  | _ => false
def isI0 : Option Value → Bool
  | some (.int .i64 0) => true
  | _ => false
theorem isF0_eq {v : Option Value} (h : isF0 v = true) : v = some (.float .f64 0) := by
  unfold isF0 at h; split at h <;> simp_all
theorem isU0_eq {v : Option Value} (h : isU0 v = true) : v = some (.int .u64 0) := by
  unfold isU0 at h; split at h <;> simp_all
theorem isP0_eq {v : Option Value} (h : isP0 v = true) : v = some (.pointer none) := by
  unfold isP0 at h; split at h <;> simp_all
theorem isI0_eq {v : Option Value} (h : isI0 v = true) : v = some (.int .i64 0) := by
  unfold isI0 at h; split at h <;> simp_all

def slot0 (c : Array Value) (i : Nat) : Bool :=
  isF0 c[6 + i * 4]? && isF0 c[6 + i * 4 + 1]? && isF0 c[6 + i * 4 + 2]? && isF0 c[6 + i * 4 + 3]? && isU0 c[166 + i * 3]? && isP0 c[166 + i * 3 + 1]? && isI0 c[166 + i * 3 + 2]?

theorem zero_slots : (List.range 40).all (slot0 Yba.zeroCells60) = true := by kernel_rfl
theorem zero_size : Yba.zeroCells60.size = 326 := by kernel_rfl
theorem zero_0 : Yba.zeroCells60[0]? = some (.bool false) := by kernel_rfl
theorem zero_3 : Yba.zeroCells60[3]? = some (.int .i32 0) := by kernel_rfl
theorem zero_4 : Yba.zeroCells60[4]? = some (.int .u64 0) := by kernel_rfl

theorem zero_slot (i : Nat) (hi : i < 40) (leaf : Bool) : Slot Yba.zeroCells60 (nd0 leaf) i := by
  have h := List.all_eq_true.1 zero_slots i (List.mem_range.2 hi)
  simp only [slot0, Bool.and_eq_true] at h
  obtain ⟨⟨⟨⟨⟨⟨h0, h1⟩, h2⟩, h3⟩, h4⟩, h5⟩, h6⟩ := h
  exact ⟨isF0_eq h0, isF0_eq h1, isF0_eq h2, isF0_eq h3, isU0_eq h4, isP0_eq h5, isI0_eq h6⟩

theorem node_zero {w : World} {b : Nat} (h : w.heap[b]? = some (.cells Yba.zeroCells60 60 (0, 0))) : NodeAt w b (nd0 false) :=
  ⟨_, h, zero_size, zero_0, zero_3, zero_4, fun i hi => zero_slot i hi false⟩

theorem slot_set {c : Array Value} {N : Nd} {i o : Nat} {v : Value} (h : Slot c N i) (h1 : o < 6 + i * 4 ∨ 6 + i * 4 + 3 < o) (h2 : o < 166 + i * 3 ∨ 166 + i * 3 + 2 < o) : Slot (c.setIfInBounds o v) N i := by
  obtain ⟨s0, s1, s2, s3, s4, s5, s6⟩ := h
  refine ⟨?_, ?_, ?_, ?_, ?_, ?_, ?_⟩
  all_goals
    rw [Array.getElem?_setIfInBounds_ne (by omega)]
    assumption

theorem node_leaf {w : World} {b : Nat} (h : w.heap[b]? = some (.cells (Yba.zeroCells60.setIfInBounds 0 (.bool true)) 60 (0, 0))) : NodeAt w b (nd0 true) := by
  refine ⟨_, h, by rw [Array.size_setIfInBounds]; exact zero_size, ?_, ?_, ?_, fun i hi => slot_set (zero_slot i hi true) (by omega) (by omega)⟩
  · rw [Array.getElem?_setIfInBounds_self_of_lt (by rw [zero_size]; omega)]; rfl
  · rw [Array.getElem?_setIfInBounds_ne (by omega)]; exact zero_3
  · rw [Array.getElem?_setIfInBounds_ne (by omega)]; exact zero_4

namespace NodeAt
variable {w : World} {b : Nat} {N : Nd}

theorem of_block {w' : World} (h : NodeAt w b N) (e : w'.heap[b]? = w.heap[b]?) : NodeAt w' b N := by
  obtain ⟨c, hb, rest⟩ := h
  exact ⟨c, e.trans hb, rest⟩
theorem lt (h : NodeAt w b N) : b < w.heap.size := by
  obtain ⟨c, hb, _⟩ := h
  exact (Array.getElem?_eq_some_iff.1 hb).1
theorem alloc (h : NodeAt w b N) (o : Obj) : NodeAt (w.alloc o) b N := h.of_block (Below.heap_alloc w o b h.lt)
theorem drewN (h : NodeAt w b N) (m : Nat) : NodeAt (w.drewN m) b N := h
theorem frz (h : NodeAt w b N) (o : Nat) : w.frozen? ⟨b, o, none⟩ = false := by
  obtain ⟨c, hb, _⟩ := h
  exact frozen_block hb
theorem ex (h : NodeAt w b N) {o : Nat} (ho : o < 326) : ∃ v, w.cell? ⟨b, o, none⟩ = some v := by
  obtain ⟨c, hb, hs, _⟩ := h
  exact ⟨c[o], by rw [cell_block hb]; simp [hs, ho]⟩
theorem leafc (h : NodeAt w b N) : w.cell? ⟨b, 0, none⟩ = some (.bool N.leaf) := by
  obtain ⟨c, hb, _, h0, _⟩ := h
  rw [cell_block hb]; exact h0
theorem usedc (h : NodeAt w b N) : w.cell? ⟨b, 3, none⟩ = some (.int .i32 N.used) := by
  obtain ⟨c, hb, _, _, h0, _⟩ := h
  rw [cell_block hb]; exact h0
theorem chainc (h : NodeAt w b N) : w.cell? ⟨b, 4, none⟩ = some (.int .u64 0) := by
  obtain ⟨c, hb, _, _, _, h0, _⟩ := h
  rw [cell_block hb]; exact h0
theorem ra (h : NodeAt w b N) {i : Nat} (hi : i < 40) : w.cell? ⟨b, 6 + i * 4, none⟩ = some (.float .f64 (N.rect i).a) := by
  obtain ⟨c, hb, _, _, _, _, hs⟩ := h
  rw [cell_block hb]; exact (hs i hi).1
theorem rb (h : NodeAt w b N) {i : Nat} (hi : i < 40) : w.cell? ⟨b, 6 + i * 4 + 1, none⟩ = some (.float .f64 (N.rect i).b) := by
  obtain ⟨c, hb, _, _, _, _, hs⟩ := h
  rw [cell_block hb]; exact (hs i hi).2.1
theorem rc (h : NodeAt w b N) {i : Nat} (hi : i < 40) : w.cell? ⟨b, 6 + i * 4 + 2, none⟩ = some (.float .f64 (N.rect i).c) := by
  obtain ⟨c, hb, _, _, _, _, hs⟩ := h
  rw [cell_block hb]; exact (hs i hi).2.2.1
theorem rd (h : NodeAt w b N) {i : Nat} (hi : i < 40) : w.cell? ⟨b, 6 + i * 4 + 3, none⟩ = some (.float .f64 (N.rect i).d) := by
  obtain ⟨c, hb, _, _, _, _, hs⟩ := h
  rw [cell_block hb]; exact (hs i hi).2.2.2.1
theorem st (h : NodeAt w b N) {i : Nat} (hi : i < 40) : w.cell? ⟨b, 166 + i * 3, none⟩ = some (.int .u64 0) := by
  obtain ⟨c, hb, _, _, _, _, hs⟩ := h
  rw [cell_block hb]; exact (hs i hi).2.2.2.2.1
theorem chc (h : NodeAt w b N) {i : Nat} (hi : i < 40) : w.cell? ⟨b, 166 + i * 3 + 1, none⟩ = some (chp (N.child i)) := by
  obtain ⟨c, hb, _, _, _, _, hs⟩ := h
  rw [cell_block hb]; exact (hs i hi).2.2.2.2.2.1
theorem itc (h : NodeAt w b N) {i : Nat} (hi : i < 40) : w.cell? ⟨b, 166 + i * 3 + 2, none⟩ = some (.int .i64 (N.item i)) := by
  obtain ⟨c, hb, _, _, _, _, hs⟩ := h
  rw [cell_block hb]; exact (hs i hi).2.2.2.2.2.2

/-- The count stored. -/
theorem setUsed (h : NodeAt w b N) (u : Int) : NodeAt (w.setCell ⟨b, 3, none⟩ (.int .i32 u)) b { N with used := u } := by
  obtain ⟨c, hb, hs, h0, h3, h4, hsl⟩ := h
  refine ⟨_, heap_set_same _ _ _ _ hb, by rw [Array.size_setIfInBounds]; exact hs, ?_, ?_, ?_, fun i hi => slot_set (N := N) (hsl i hi) (by omega) (by omega)⟩
  · rw [Array.getElem?_setIfInBounds_ne (by omega)]; exact h0
  · rw [Array.getElem?_setIfInBounds_self_of_lt (by omega)]
  · rw [Array.getElem?_setIfInBounds_ne (by omega)]; exact h4

/-- A rectangle stored at slot k. -/
theorem setRect (h : NodeAt w b N) (k : Nat) (r : R4) (hk : k < 40) :
    NodeAt ((((w.setCell ⟨b, 6 + k * 4, none⟩ (.float .f64 r.a)).setCell ⟨b, 6 + k * 4 + 1, none⟩ (.float .f64 r.b)).setCell ⟨b, 6 + k * 4 + 2, none⟩ (.float .f64 r.c)).setCell ⟨b, 6 + k * 4 + 3, none⟩ (.float .f64 r.d)) b { N with rect := upd N.rect k r } := by
  obtain ⟨c, hb, hs, h0, h3, h4, hsl⟩ := h
  refine ⟨_, heap_set_same _ _ _ _ (heap_set_same _ _ _ _ (heap_set_same _ _ _ _ (heap_set_same _ _ _ _ hb))), by simpa using hs, ?_, ?_, ?_, fun i hi => ?_⟩
  · rw [Array.getElem?_setIfInBounds_ne (by omega), Array.getElem?_setIfInBounds_ne (by omega), Array.getElem?_setIfInBounds_ne (by omega), Array.getElem?_setIfInBounds_ne (by omega)]; exact h0
  · rw [Array.getElem?_setIfInBounds_ne (by omega), Array.getElem?_setIfInBounds_ne (by omega), Array.getElem?_setIfInBounds_ne (by omega), Array.getElem?_setIfInBounds_ne (by omega)]; exact h3
  · rw [Array.getElem?_setIfInBounds_ne (by omega), Array.getElem?_setIfInBounds_ne (by omega), Array.getElem?_setIfInBounds_ne (by omega), Array.getElem?_setIfInBounds_ne (by omega)]; exact h4
  · obtain ⟨s0, s1, s2, s3, s4, s5, s6⟩ := hsl i hi
    by_cases e : i = k
    · subst e
      refine ⟨?_, ?_, ?_, ?_, ?_, ?_, ?_⟩
      · rw [Array.getElem?_setIfInBounds_ne (by omega), Array.getElem?_setIfInBounds_ne (by omega), Array.getElem?_setIfInBounds_ne (by omega), Array.getElem?_setIfInBounds_self_of_lt (by omega)]; simp [upd_same]
      · rw [Array.getElem?_setIfInBounds_ne (by omega), Array.getElem?_setIfInBounds_ne (by omega), Array.getElem?_setIfInBounds_self_of_lt (by simp; omega)]; simp [upd_same]
      · rw [Array.getElem?_setIfInBounds_ne (by omega), Array.getElem?_setIfInBounds_self_of_lt (by simp; omega)]; simp [upd_same]
      · rw [Array.getElem?_setIfInBounds_self_of_lt (by simp; omega)]; simp [upd_same]
      all_goals
        rw [Array.getElem?_setIfInBounds_ne (by omega), Array.getElem?_setIfInBounds_ne (by omega), Array.getElem?_setIfInBounds_ne (by omega), Array.getElem?_setIfInBounds_ne (by omega)]
        assumption
    · refine ⟨?_, ?_, ?_, ?_, ?_, ?_, ?_⟩
      all_goals
        rw [Array.getElem?_setIfInBounds_ne (by omega), Array.getElem?_setIfInBounds_ne (by omega), Array.getElem?_setIfInBounds_ne (by omega), Array.getElem?_setIfInBounds_ne (by omega)]
        first | assumption | (simp only [upd_ne _ _ _ e]; assumption)

/-- An item stored at slot k. -/
theorem setItem (h : NodeAt w b N) (k : Nat) (x : Int) (hk : k < 40) : NodeAt (w.setCell ⟨b, 166 + k * 3 + 2, none⟩ (.int .i64 x)) b { N with item := upd N.item k x } := by
  obtain ⟨c, hb, hs, h0, h3, h4, hsl⟩ := h
  refine ⟨_, heap_set_same _ _ _ _ hb, by simpa using hs, ?_, ?_, ?_, fun i hi => ?_⟩
  · rw [Array.getElem?_setIfInBounds_ne (by omega)]; exact h0
  · rw [Array.getElem?_setIfInBounds_ne (by omega)]; exact h3
  · rw [Array.getElem?_setIfInBounds_ne (by omega)]; exact h4
  · obtain ⟨s0, s1, s2, s3, s4, s5, s6⟩ := hsl i hi
    refine ⟨?_, ?_, ?_, ?_, ?_, ?_, ?_⟩
    iterate 6
      · rw [Array.getElem?_setIfInBounds_ne (by omega)]; assumption
    · by_cases e : i = k
      · subst e
        rw [Array.getElem?_setIfInBounds_self_of_lt (by omega)]; simp [upd_same]
      · rw [Array.getElem?_setIfInBounds_ne (by omega)]
        show _ = some (Value.int .i64 (upd N.item k x i))
        rw [upd_ne _ _ _ e]; exact s6

/-- A child stored at slot k. -/
theorem setChild (h : NodeAt w b N) (k x : Nat) (hk : k < 40) : NodeAt (w.setCell ⟨b, 166 + k * 3 + 1, none⟩ (.pointer (some ⟨x, 0, none⟩))) b { N with child := upd N.child k (some x) } := by
  obtain ⟨c, hb, hs, h0, h3, h4, hsl⟩ := h
  refine ⟨_, heap_set_same _ _ _ _ hb, by simpa using hs, ?_, ?_, ?_, fun i hi => ?_⟩
  · rw [Array.getElem?_setIfInBounds_ne (by omega)]; exact h0
  · rw [Array.getElem?_setIfInBounds_ne (by omega)]; exact h3
  · rw [Array.getElem?_setIfInBounds_ne (by omega)]; exact h4
  · obtain ⟨s0, s1, s2, s3, s4, s5, s6⟩ := hsl i hi
    refine ⟨?_, ?_, ?_, ?_, ?_, ?_, ?_⟩
    iterate 5
      · rw [Array.getElem?_setIfInBounds_ne (by omega)]; assumption
    · by_cases e : i = k
      · subst e
        rw [Array.getElem?_setIfInBounds_self_of_lt (by omega)]; simp [upd_same, chp]
      · rw [Array.getElem?_setIfInBounds_ne (by omega)]
        show _ = some (chp (upd N.child k (some x) i))
        rw [upd_ne _ _ _ e]; exact s5
    · rw [Array.getElem?_setIfInBounds_ne (by omega)]; exact s6
end NodeAt

end Go.Proofs.Ybulkazxi
