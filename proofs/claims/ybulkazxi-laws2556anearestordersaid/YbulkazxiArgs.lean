/-
  How the argument 'es' lies in memory.
-/
import Derived.Test.YbulkazxiLeaf
import Derived.ProofKit
import Derived.OpenShut
import Derived.ChangeOld
import Derived.Below
import Derived.Deep.Slices
import Derived.Lib.SmallJoins
namespace Go.Proofs.Ybulkazxi
open Go.ChangeShapes Go.WideShapes Go.ChangeAt Go.RowKit

theorem Yba.cells71 : Yba.prog.cellsOf 71 = 5 := by kernel_rfl
theorem Yba.cells23 : Yba.prog.cellsOf 23 = 1 := by kernel_rfl
theorem Yba.cells5 : Yba.prog.cellsOf 5 = 1 := by kernel_rfl

theorem bd_u8 {n : Int} (h : (Lit.int .u8 n).wf = true) : 0 ≤ n ∧ n ≤ 255 := by
  simp [Lit.wf, IntKind.min, IntKind.max, IntKind.signed, IntKind.bits] at h
  omega
theorem bd_i8 {n : Int} (h : (Lit.int .i8 n).wf = true) : -128 ≤ n ∧ n ≤ 127 := by
  simp [Lit.wf, IntKind.min, IntKind.max, IntKind.signed, IntKind.bits] at h
  omega
theorem add_flat (b o k : Nat) : (⟨b, o, none⟩ : Addr).add k = ⟨b, o + k, none⟩ := by simp [Addr.add]

section
variable {P : Program} {H : Type} {enc : TypeId × Value → H} {w : World} {base : Nat} {spare : Nat → Bool} {held : Bool}
theorem trod_struct5 {t : TypeId} {f0 f1 f2 f3 f4 : Field} {fuel : Nat} {cs : List Value} {x : DataW H × List MemPlace} (ht : P.underlying t = some (.struct #[f0, f1, f2, f3, f4])) (h : DataW.trod enc P w base spare held fuel t cs = some x) :
    ∃ y0 y1 y2 y3 y4 n, cs.length = P.cellsOf t ∧ DataW.trod enc P w base spare held n f0.type ((cs.drop f0.offset).take (P.cellsOf f0.type)) = some y0 ∧
      DataW.trod enc P w base spare held n f1.type ((cs.drop f1.offset).take (P.cellsOf f1.type)) = some y1 ∧ DataW.trod enc P w base spare held n f2.type ((cs.drop f2.offset).take (P.cellsOf f2.type)) = some y2 ∧
      DataW.trod enc P w base spare held n f3.type ((cs.drop f3.offset).take (P.cellsOf f3.type)) = some y3 ∧ DataW.trod enc P w base spare held n f4.type ((cs.drop f4.offset).take (P.cellsOf f4.type)) = some y4 := by
  obtain ⟨xs, n, _, rfl, hl, hlen, hf⟩ := DataW.trod_struct ht h
  match xs, hlen with
  | [y0, y1, y2, y3, y4], _ => exact ⟨y0, y1, y2, y3, y4, n, hl, by simpa using hf 0 f0 rfl, by simpa using hf 1 f1 rfl, by simpa using hf 2 f2 rfl, by simpa using hf 3 f3 rfl, by simpa using hf 4 f4 rfl⟩
end

set_option maxRecDepth 100000 in
/-- The slice is empty, or its entries lie five cells each. -/
theorem open_es {H : Type} {enc : TypeId × Value → H} {w : World} {fuel : Nat} {a : Option Addr} {len cap : Nat} {x : DataW H × List MemPlace}
    (h : DataW.trod enc Yba.prog w 0 (fun _ => true) true fuel 22 [.slice a len cap] = some x) : len ≤ maxLen ∧ (len = 0 ∨ ∃ b off es, a = some ⟨b, off, none⟩ ∧ EsAt w b off len es) := by
  refine ⟨?_, ?_⟩
  · rcases Deep.open_slice Yba.underlying22 h with ⟨hcs, _⟩ | ⟨ad, l, c, m, f, D, Pl, hcs, _, hl, hcm, _, _, _⟩
    · simp at hcs
      omega
    · simp at hcs
      omega
  by_cases hn : len = 0
  · exact .inl hn
  right
  rcases Deep.open_slice Yba.underlying22 h with ⟨hcs, _⟩ | ⟨ad, l, c, m, f, D, Pl, hcs, _, hl, _, hm, _, hx⟩
  · simp at hcs; omega
  · simp at hcs
    obtain ⟨rfl, rfl, rfl⟩ := hcs
    simp only [if_true] at hm
    subst hm
    rw [Yba.cells71] at hx
    have one : ∀ i, i < len → ∃ q : Int × Int × Int × Int × Int, w.cell? (ad.add (i * 5)) = some (.int .i8 q.1) ∧ w.cell? ((ad.add (i * 5)).add 1) = some (.int .i8 q.2.1) ∧ w.cell? ((ad.add (i * 5)).add 2) = some (.int .u8 q.2.2.1) ∧
        w.cell? ((ad.add (i * 5)).add 3) = some (.int .u8 q.2.2.2.1) ∧ w.cell? ((ad.add (i * 5)).add 4) = some (.int .i8 q.2.2.2.2) ∧ (En.mk q.1 q.2.1 q.2.2.1 q.2.2.2.1 q.2.2.2.2).ok := by
      intro i hi
      obtain ⟨cs, h1, h2⟩ := hx i (by omega)
      obtain ⟨_, hlen, hc⟩ := World.cells?_some h1
      obtain ⟨y0, y1, y2, y3, y4, g, _, t0, t1, t2, t3, t4⟩ := trod_struct5 Yba.underlying71 h2
      match cs, hlen with
      | [c0, c1, c2, c3, c4], _ =>
        simp [Yba.cells5, Yba.cells23] at t0 t1 t2 t3 t4
        obtain ⟨n0, e0, _, w0⟩ := DataW.trod_int Yba.underlying23 t0
        obtain ⟨n1, e1, _, w1⟩ := DataW.trod_int Yba.underlying23 t1
        obtain ⟨n2, e2, _, w2⟩ := DataW.trod_int Yba.underlying5 t2
        obtain ⟨n3, e3, _, w3⟩ := DataW.trod_int Yba.underlying5 t3
        obtain ⟨n4, e4, _, w4⟩ := DataW.trod_int Yba.underlying23 t4
        simp at e0 e1 e2 e3 e4
        subst e0 e1 e2 e3 e4
        have d0 := hc 0 (by omega)
        have d1 := hc 1 (by omega)
        have d2 := hc 2 (by omega)
        have d3 := hc 3 (by omega)
        have d4 := hc 4 (by omega)
        simp [Addr.add] at d0
        exact ⟨(n0, n1, n2, n3, n4), by simpa [Addr.add] using d0, by simpa using d1, by simpa using d2, by simpa using d3, by simpa using d4, bd_i8 w0, bd_i8 w1, bd_u8 w2, bd_u8 w3, bd_i8 w4⟩
    obtain ⟨q, hq⟩ := Deep.choose_lt (α := Int × Int × Int × Int × Int) one
    obtain ⟨b, off, spot⟩ := ad
    have c0 := (hq 0 (by omega)).1
    have hspot : spot = none := by simpa [Addr.add] using World.cell?_spot c0
    subst hspot
    refine ⟨b, off, fun i => ⟨(q i).1, (q i).2.1, (q i).2.2.1, (q i).2.2.2.1, (q i).2.2.2.2⟩, rfl, ?_, fun j hj => ?_⟩
    · exact World.block_lt_of_cell? w _ (by simpa [Addr.add] using c0)
    · obtain ⟨g0, g1, g2, g3, g4, g5⟩ := hq j hj
      simp only [add_flat] at g0 g1 g2 g3 g4
      exact ⟨g5, g0, g1, g2, g3, g4⟩

end Go.Proofs.Ybulkazxi
