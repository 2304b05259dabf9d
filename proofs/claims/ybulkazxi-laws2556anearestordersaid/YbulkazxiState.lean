/-
  THE STATE of the second law's walk: one leaf, the queue, the calls, the set-aside and the taken neighbours.
-/
import Derived.Test.YbulkazxiDist
import Derived.Test.YbulkazxiPop
namespace Go.Proofs.Ybulkazxi
open Go.RowKit

/-- Where things lie. -/
structure Cx where
  E : Nat
  eb : Nat
  off : Nat
  cap : Nat
  n : Nat
  es : Nat → En
  N : Nat
  C : Nat
  G : Nat
  R : Nat
  K : Nat
  base : Nat
  B0 : Nat

structure Cx.ok (X : Cx) : Prop where
  n40 : X.n ≤ 40
  e1 : X.E < X.base
  e2 : X.eb < X.base
  e3 : X.N < X.base
  e4 : X.C < X.base
  e5 : X.G < X.base
  e6 : X.R < X.base
  e7 : X.K < X.base
  c1 : X.E ≠ X.C ∧ X.eb ≠ X.C ∧ X.N ≠ X.C
  g1 : X.E ≠ X.G ∧ X.eb ≠ X.G ∧ X.N ≠ X.G
  r1 : X.E ≠ X.R ∧ X.eb ≠ X.R ∧ X.N ≠ X.R
  k1 : X.E ≠ X.K ∧ X.eb ≠ X.K ∧ X.N ≠ X.K
  d1 : X.C ≠ X.G ∧ X.C ≠ X.R ∧ X.C ≠ X.K ∧ X.G ≠ X.R ∧ X.G ≠ X.K ∧ X.R ≠ X.K
  b1 : X.B0 ≤ X.C ∧ X.B0 ≤ X.G ∧ X.B0 ≤ X.R ∧ X.B0 ≤ X.K ∧ X.B0 ≤ X.base

/-- The candidate of entry i. -/
def Cx.cd (X : Cx) (i : Nat) : Cd := ⟨X.N, 6 + i * 4, X.N, 166 + i * 3 + 1, (X.es i).key, none⟩

/-- What stays. -/
structure Fx (X : Cx) (w0 w : World) : Prop where
  low : Below X.B0 w0 w
  es : EsAt w X.eb X.off X.n X.es
  ev : w.cell? ⟨X.E, 0, none⟩ = some (.slice (some ⟨X.eb, X.off, none⟩) X.n X.cap)
  nd : NodeAt w X.N (leafN X.es 0 X.n X.n)
  k2 : w.cell? ⟨X.K, 2, none⟩ = some (.int .u64 0)
  k3 : w.cell? ⟨X.K, 3, none⟩ = some (.func (.func 12) #[] #[.pointer (some ⟨X.C, 0, none⟩), .pointer (some ⟨X.E, 0, none⟩)])
  le : X.base ≤ w.heap.size

theorem Below.chg {F : Nat → Prop} {B : Nat} {w0 w w' : World} (h : Below B w0 w) (hc : Chg F w w') (hF : ∀ j, F j → B ≤ j) (hB : B ≤ w.heap.size) : Below B w0 w' :=
  ⟨hc.os.trans h.os, hc.tape.trans h.tape, hc.output.trans h.output, Nat.le_trans h.size hc.size, fun k hk => (hc.block k (by omega) (fun f => absurd (hF k f) (by omega))).trans (h.block k hk)⟩

theorem EsAt.chg {F : Nat → Prop} {w w' : World} {b off n : Nat} {es : Nat → En} (h : EsAt w b off n es) (hc : Chg F w w') (hb : ¬ F b) : EsAt w' b off n es := by
  refine ⟨Nat.lt_of_lt_of_le h.1 hc.size, fun j hj => ?_⟩
  obtain ⟨h0, h1, h2, h3, h4, h5⟩ := h.2 j hj
  have hB := h.1
  exact ⟨h0, (hc.cell (p := ⟨b, _, none⟩) hB hb).trans h1, (hc.cell (p := ⟨b, _, none⟩) hB hb).trans h2, (hc.cell (p := ⟨b, _, none⟩) hB hb).trans h3, (hc.cell (p := ⟨b, _, none⟩) hB hb).trans h4, (hc.cell (p := ⟨b, _, none⟩) hB hb).trans h5⟩

theorem NodeAt.chg {F : Nat → Prop} {w w' : World} {b : Nat} {N : Nd} (h : NodeAt w b N) (hc : Chg F w w') (hb : ¬ F b) : NodeAt w' b N := h.of_block (hc.block b h.lt hb)
theorem HAt.chg {F : Nat → Prop} {w w' : World} {R n : Nat} {g : Nat → Cd} (h : HAt w R n g) (hc : Chg F w w') (hb : ¬ F R) : HAt w' R n g := h.of_block (hc.block R h.lt hb)

theorem Fx.chg {X : Cx} {w0 w w' : World} (h : Fx X w0 w) (ok : X.ok) {F : Nat → Prop} (hc : Chg F w w') (hF : ∀ j, F j → j = X.C ∨ j = X.G ∨ j = X.R ∨ X.base ≤ j) : Fx X w0 w' := by
  have hle := h.le
  have c1 := ok.c1; have g1 := ok.g1; have r1 := ok.r1; have k1 := ok.k1; have d1 := ok.d1; have b1 := ok.b1
  have e1 := ok.e1; have e2 := ok.e2; have e3 := ok.e3; have e7 := ok.e7
  have hE : ¬ F X.E := fun f => (hF _ f).elim c1.1 (·.elim g1.1 (·.elim r1.1 (Nat.not_le.2 e1)))
  have heb : ¬ F X.eb := fun f => (hF _ f).elim c1.2.1 (·.elim g1.2.1 (·.elim r1.2.1 (Nat.not_le.2 e2)))
  have hN : ¬ F X.N := fun f => (hF _ f).elim c1.2.2 (·.elim g1.2.2 (·.elim r1.2.2 (Nat.not_le.2 e3)))
  have hK : ¬ F X.K := fun f => (hF _ f).elim (Ne.symm d1.2.2.1) (·.elim (Ne.symm d1.2.2.2.2.1) (·.elim (Ne.symm d1.2.2.2.2.2) (Nat.not_le.2 e7)))
  clear c1 g1 r1 k1 d1
  exact ⟨Below.chg h.low hc (fun j f => by have := hF _ f; omega) (by omega), h.es.chg hc heb, (hc.cell (p := ⟨X.E, 0, none⟩) (by show X.E < _; omega) hE).trans h.ev, h.nd.chg hc hN,
    (hc.cell (p := ⟨X.K, 2, none⟩) (by show X.K < _; omega) hK).trans h.k2, (hc.cell (p := ⟨X.K, 3, none⟩) (by show X.K < _; omega) hK).trans h.k3, Nat.le_trans hle hc.size⟩

/-- Behind a step that turns the rank's block, whose cells 2 and 3 stand. -/
theorem Fx.chgK {X : Cx} {w0 w w' : World} (h : Fx X w0 w) (ok : X.ok) {F : Nat → Prop} (hc : Chg F w w') (hF : ∀ j, F j → j = X.K ∨ X.base ≤ j) (h2 : w'.cell? ⟨X.K, 2, none⟩ = w.cell? ⟨X.K, 2, none⟩) (h3 : w'.cell? ⟨X.K, 3, none⟩ = w.cell? ⟨X.K, 3, none⟩) : Fx X w0 w' := by
  have hle := h.le
  have c1 := ok.c1; have g1 := ok.g1; have r1 := ok.r1; have k1 := ok.k1; have d1 := ok.d1; have b1 := ok.b1
  have e1 := ok.e1; have e2 := ok.e2; have e3 := ok.e3; have e7 := ok.e7
  have hE : ¬ F X.E := fun f => (hF _ f).elim k1.1 (Nat.not_le.2 e1)
  have heb : ¬ F X.eb := fun f => (hF _ f).elim k1.2.1 (Nat.not_le.2 e2)
  have hN : ¬ F X.N := fun f => (hF _ f).elim k1.2.2 (Nat.not_le.2 e3)
  clear c1 g1 r1 k1 d1
  exact ⟨Below.chg h.low hc (fun j f => by have := hF _ f; omega) (by omega), h.es.chg hc heb, (hc.cell (p := ⟨X.E, 0, none⟩) (by show X.E < _; omega) hE).trans h.ev, h.nd.chg hc hN,
    h2.trans h.k2, h3.trans h.k3, Nat.le_trans hle hc.size⟩

/-- The three slices that grow. -/
structure Ac3 (X : Cx) (w : World) (k : Nat) (cl : List Value) (un : Nat) (ul : List Value) (gn : Nat) (gl : List Value) (cv uv gv : Value) : Prop where
  c : Acc w X.base ⟨X.C, 0, none⟩ 3 1 cv k cl
  u : Acc w X.base ⟨X.K, 4, none⟩ 66 6 uv un ul
  g : Acc w X.base ⟨X.G, 0, none⟩ 66 6 gv gn gl
  cu : ∀ j, cv.ownBlock = some j → uv.ownBlock ≠ some j
  cg : ∀ j, cv.ownBlock = some j → gv.ownBlock ≠ some j
  ug : ∀ j, uv.ownBlock = some j → gv.ownBlock ≠ some j

namespace Ac3
variable {X : Cx} {w w' : World} {k : Nat} {cl : List Value} {un : Nat} {ul : List Value} {gn : Nat} {gl : List Value} {cv uv gv : Value}

/-- A step that turns none of them. -/
theorem far (h : Ac3 X w k cl un ul gn gl cv uv gv) (ok : X.ok) {F : Nat → Prop} (hc : Chg F w w') (hF : ∀ j, F j → j = X.R) : Ac3 X w' k cl un ul gn gl cv uv gv := by
  have d1 := ok.d1; have e6 := ok.e6
  refine ⟨h.c.chg hc (fun f => d1.2.1 (hF _ f)) (fun g hg f => ?_), h.u.chg hc (fun f => Ne.symm d1.2.2.2.2.2 (hF _ f)) (fun g hg f => ?_), h.g.chg hc (fun f => d1.2.2.2.1 (hF _ f)) (fun g hg f => ?_), h.cu, h.cg, h.ug⟩
  all_goals clear d1
  · have := (own_lt h.c.own hg).1; have := hF _ f; omega
  · have := (own_lt h.u.own hg).1; have := hF _ f; omega
  · have := (own_lt h.g.own hg).1; have := hF _ f; omega

/-- The calls grow. -/
theorem growC (h : Ac3 X w k cl un ul gn gl cv uv gv) (ok : X.ok) {cv' : Value} {k' : Nat} {cl' : List Value} (hA : Acc w' X.base ⟨X.C, 0, none⟩ 3 1 cv' k' cl') (hG : Grew w w' ⟨X.C, 0, none⟩ cv cv') : Ac3 X w' k' cl' un ul gn gl cv' uv gv := by
  have d1 := ok.d1; have e4 := ok.e4; have e5 := ok.e5; have e7 := ok.e7
  refine ⟨hA, h.u.chg hG.1 ?_ ?_, h.g.chg hG.1 ?_ ?_, fun j hj he => ?_, fun j hj he => ?_, h.ug⟩
  · rintro (f | f)
    · simp at f; omega
    · have := (own_lt h.c.own f).1; simp at this; omega
  · rintro g hg (f | f)
    · have := (own_lt h.u.own hg).1; simp at f; omega
    · exact h.cu g f hg
  · rintro (f | f)
    · simp at f; omega
    · have := (own_lt h.c.own f).1; simp at this; omega
  · rintro g hg (f | f)
    · have := (own_lt h.g.own hg).1; simp at f; omega
    · exact h.cg g f hg
  · rcases hG.2 j hj with f | f
    · exact h.cu j f he
    · have := (own_lt h.u.own he).2; omega
  · rcases hG.2 j hj with f | f
    · exact h.cg j f he
    · have := (own_lt h.g.own he).2; omega

/-- The set-aside ones grow. -/
theorem growU (h : Ac3 X w k cl un ul gn gl cv uv gv) (ok : X.ok) {uv' : Value} {un' : Nat} {ul' : List Value} (hA : Acc w' X.base ⟨X.K, 4, none⟩ 66 6 uv' un' ul') (hG : Grew w w' ⟨X.K, 4, none⟩ uv uv') : Ac3 X w' k cl un' ul' gn gl cv uv' gv := by
  have d1 := ok.d1; have e4 := ok.e4; have e5 := ok.e5; have e7 := ok.e7
  refine ⟨h.c.chg hG.1 ?_ ?_, hA, h.g.chg hG.1 ?_ ?_, fun j hj he => ?_, h.cg, fun j hj he => ?_⟩
  · rintro (f | f)
    · simp at f; omega
    · have := (own_lt h.u.own f).1; simp at this; omega
  · rintro g hg (f | f)
    · have := (own_lt h.c.own hg).1; simp at f; omega
    · exact h.cu g hg f
  · rintro (f | f)
    · simp at f; omega
    · have := (own_lt h.u.own f).1; simp at this; omega
  · rintro g hg (f | f)
    · have := (own_lt h.g.own hg).1; simp at f; omega
    · exact h.ug g f hg
  · rcases hG.2 j he with f | f
    · exact h.cu j hj f
    · have := (own_lt h.c.own hj).2; omega
  · rcases hG.2 j hj with f | f
    · exact h.ug j f he
    · have := (own_lt h.g.own he).2; omega

/-- The taken ones grow. -/
theorem growG (h : Ac3 X w k cl un ul gn gl cv uv gv) (ok : X.ok) {gv' : Value} {gn' : Nat} {gl' : List Value} (hA : Acc w' X.base ⟨X.G, 0, none⟩ 66 6 gv' gn' gl') (hG : Grew w w' ⟨X.G, 0, none⟩ gv gv') : Ac3 X w' k cl un ul gn' gl' cv uv gv' := by
  have d1 := ok.d1; have e4 := ok.e4; have e5 := ok.e5; have e7 := ok.e7
  refine ⟨h.c.chg hG.1 ?_ ?_, h.u.chg hG.1 ?_ ?_, hA, h.cu, fun j hj he => ?_, fun j hj he => ?_⟩
  · rintro (f | f)
    · simp at f; omega
    · have := (own_lt h.g.own f).1; simp at this; omega
  · rintro g hg (f | f)
    · have := (own_lt h.c.own hg).1; simp at f; omega
    · exact h.cg g hg f
  · rintro (f | f)
    · simp at f; omega
    · have := (own_lt h.g.own f).1; simp at this; omega
  · rintro g hg (f | f)
    · have := (own_lt h.u.own hg).1; simp at f; omega
    · exact h.ug g hg f
  · rcases hG.2 j he with f | f
    · exact h.cg j hj f
    · have := (own_lt h.c.own hj).2; omega
  · rcases hG.2 j he with f | f
    · exact h.ug j hj f
    · have := (own_lt h.u.own hj).2; omega
end Ac3

/-- The queue holds the entries qs. -/
structure Qs (X : Cx) (w : World) (m : Nat) (g : Nat → Cd) (qs : List Nat) : Prop where
  at_ : HAt w X.R m g
  heap : IsHeap g m
  perm : (L g m).Perm (qs.map X.cd)
  all : ∀ i ∈ qs, i < X.n ∧ (X.es i).nan = false

theorem Qs.far {X : Cx} {w w' : World} {m : Nat} {g : Nat → Cd} {qs : List Nat} (h : Qs X w m g qs) {F : Nat → Prop} (hc : Chg F w w') (hF : ¬ F X.R) : Qs X w' m g qs := ⟨h.at_.chg hc hF, h.heap, h.perm, h.all⟩

theorem Qs.len {X : Cx} {w : World} {m : Nat} {g : Nat → Cd} {qs : List Nat} (h : Qs X w m g qs) : m = qs.length := by
  have := h.perm.length_eq
  simpa [L] using this

theorem key_fin (e : En) (he : e.ok) (hn : e.nan = false) : fin e.key = true := by
  have e1 : e.key = fl e.d := by unfold En.key; rw [hn, if_neg Bool.false_ne_true]
  rw [e1]
  exact fin_fl e.d (by have := he.2.2.2.2; omega)

/-- The candidate of an entry stands well. -/
theorem Fx.good {X : Cx} {w0 w : World} (h : Fx X w0 w) (ok : X.ok) {i : Nat} (hi : i < X.n) (hn : (X.es i).nan = false) : Good w X.R (X.cd i) :=
  ⟨h.nd.lt, ok.r1.2.2, h.nd.chc (show i < 40 from Nat.lt_of_lt_of_le hi ok.n40), key_fin _ (h.es.2 i hi).1 hn⟩

theorem Qs.good {X : Cx} {w0 w : World} {m : Nat} {g : Nat → Cd} {qs : List Nat} (h : Qs X w m g qs) (hx : Fx X w0 w) (ok : X.ok) : ∀ j, j < m → Good w X.R (g j) := by
  intro j hj
  have : g j ∈ qs.map X.cd := h.perm.mem_iff.1 (mem_L.2 ⟨j, hj, rfl⟩)
  obtain ⟨i, hi, he⟩ := List.mem_map.1 this
  rw [← he]
  exact hx.good ok (h.all i hi).1 (h.all i hi).2

end Go.Proofs.Ybulkazxi
