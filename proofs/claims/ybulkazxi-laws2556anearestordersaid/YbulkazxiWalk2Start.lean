/-
  walk under a ranking function: how it begins.
-/
import Derived.Test.YbulkazxiSt2
import Derived.Laws.EntriesVeiled
namespace Go.Proofs.Ybulkazxi
open Go.RowKit

/-- Where things lie ahead of the walk. -/
structure Pre2 (X : Cx) (w0 w : World) : Prop where
  low : Below X.B0 w0 w
  es : EsAt w X.eb X.off X.n X.es
  ev : w.cell? ⟨X.E, 0, none⟩ = some (.slice (some ⟨X.eb, X.off, none⟩) X.n X.cap)
  nd : NodeAt w X.N (leafN X.es 0 X.n X.n)
  cc : w.cell? ⟨X.C, 0, none⟩ = some (.slice none 0 0) ∧ w.frozen? ⟨X.C, 0, none⟩ = false
  gc : w.cell? ⟨X.G, 0, none⟩ = some (.slice none 0 0) ∧ w.frozen? ⟨X.G, 0, none⟩ = false
  n40 : X.n ≤ 40
  lt : X.E < w.heap.size ∧ X.eb < w.heap.size ∧ X.N < w.heap.size ∧ X.C < w.heap.size ∧ X.G < w.heap.size
  c1 : X.E ≠ X.C ∧ X.eb ≠ X.C ∧ X.N ≠ X.C
  g1 : X.E ≠ X.G ∧ X.eb ≠ X.G ∧ X.N ≠ X.G
  d1 : X.C ≠ X.G
  b1 : X.B0 ≤ X.C ∧ X.B0 ≤ X.G ∧ X.B0 ≤ w.heap.size
  r : X.R = w.heap.size + 1 + 1
  k : X.K = w.heap.size + 1 + 1 + 1
  b : X.base = w.heap.size + 1 + 1 + 1 + 1

theorem Pre2.ok {X : Cx} {w0 w : World} (h : Pre2 X w0 w) : X.ok := by
  have lt := h.lt; have r := h.r; have k := h.k; have b := h.b; have b1 := h.b1
  exact ⟨h.n40, by omega, by omega, by omega, by omega, by omega, by omega, by omega, h.c1, h.g1, ⟨by omega, by omega, by omega⟩, ⟨by omega, by omega, by omega⟩,
    ⟨h.d1, by omega, by omega, by omega, by omega, by omega⟩, ⟨b1.1, b1.2.1, by omega, by omega, by omega⟩⟩

theorem room_size : Yba.zeroCells131.size = 960 := by kernel_rfl

/-- The world in which the queue and the ranking stand. -/
noncomputable def begun (X : Cx) (w : World) (o1 o2 : Obj) : World :=
  (((w.alloc o1).alloc o2).alloc (.cells Yba.zeroCells131 131)).alloc (.cells #[.float .f64 0, .float .f64 0, .int .u64 0, .func (.func 12) #[] #[.pointer (some ⟨X.C, 0, none⟩), .pointer (some ⟨X.E, 0, none⟩)], .slice none 0 0] 133)

theorem begun_st {X : Cx} {w0 w : World} (h : Pre2 X w0 w) (o1 o2 : Obj) (g : Nat → Cd) :
    St2 X w0 (begun X w o1 o2) 0 [] 0 [] 0 [] (.slice none 0 0) (.slice none 0 0) (.slice none 0 0) 0 g [] := by
  have hc : Chg (fun _ => False) w (begun X w o1 o2) := ((((Chg.refl _ w).alloc _).alloc _).alloc _).alloc _
  have lt := h.lt; have b1 := h.b1
  have hs : (begun X w o1 o2).heap.size = w.heap.size + 1 + 1 + 1 + 1 := by simp [begun]
  have hK : (begun X w o1 o2).heap[X.K]? = some (.cells #[.float .f64 0, .float .f64 0, .int .u64 0, .func (.func 12) #[] #[.pointer (some ⟨X.C, 0, none⟩), .pointer (some ⟨X.E, 0, none⟩)], .slice none 0 0] 133) := by
    have := heap_alloc_new (((w.alloc o1).alloc o2).alloc (.cells Yba.zeroCells131 131)) (.cells #[.float .f64 0, .float .f64 0, .int .u64 0, .func (.func 12) #[] #[.pointer (some ⟨X.C, 0, none⟩), .pointer (some ⟨X.E, 0, none⟩)], .slice none 0 0] 133)
    simp only [size_alloc] at this
    rw [h.k]; exact this
  have hR : (begun X w o1 o2).heap[X.R]? = some (.cells Yba.zeroCells131 131) := by
    have := heap_alloc_new ((w.alloc o1).alloc o2) (.cells Yba.zeroCells131 131)
    simp only [size_alloc] at this
    rw [h.r]
    exact (Below.heap_alloc _ _ _ (by simp)).trans this
  have hn : ∀ e sz, (begun X w o1 o2).ownsRow X.base e sz (.slice none 0 0) 0 [] := fun e sz => ⟨by simp, .inl ⟨rfl, rfl⟩⟩
  have hb : X.base ≤ (begun X w o1 o2).heap.size := by rw [hs, h.b]; exact Nat.le_refl _
  have ok := h.ok
  refine ⟨⟨Below.chg h.low hc (fun _ f => f.elim) b1.2.2, h.es.chg hc id, (hc.cell (p := ⟨X.E, 0, none⟩) lt.1 id).trans h.ev, h.nd.chg hc id, (by rw [cell_block hK]; rfl), (by rw [cell_block hK]; rfl), hb⟩,
    ⟨⟨(hc.cell (p := ⟨X.C, 0, none⟩) lt.2.2.2.1 id).trans h.cc.1, (hc.frozen (p := ⟨X.C, 0, none⟩) lt.2.2.2.1 id).trans h.cc.2, hn _ _, ok.e4, hb⟩,
     ⟨(by rw [cell_block hK]; rfl), frozen_block hK, hn _ _, ok.e7, hb⟩,
     ⟨(hc.cell (p := ⟨X.G, 0, none⟩) lt.2.2.2.2 id).trans h.gc.1, (hc.frozen (p := ⟨X.G, 0, none⟩) lt.2.2.2.2 id).trans h.gc.2, hn _ _, ok.e5, hb⟩,
     (fun j hj => by cases hj), (fun j hj => by cases hj), (fun j hj => by cases hj)⟩,
    ⟨⟨_, _, hR, room_size, fun j hj => absurd hj (Nat.not_lt_zero _)⟩, fun j _ hj => absurd hj (Nat.not_lt_zero _), (by simp [L]), (fun i hi => by cases hi)⟩⟩

end Go.Proofs.Ybulkazxi
