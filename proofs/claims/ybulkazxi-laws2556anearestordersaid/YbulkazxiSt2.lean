/-
  The state of the second law's walk, and its steps.
-/
import Derived.Test.YbulkazxiNil
namespace Go.Proofs.Ybulkazxi
open Go.RowKit
attribute [local go_sem] run_store_float func_eq_nil nil_eq_nil

def callsL (k : Nat) : List Value := (List.range k).map fun i => .int .i64 (i : Nat)
def nansTo (es : Nat → En) (k : Nat) : List Nat := (List.range k).filter fun i => (es i).nan
def rankTo (es : Nat → En) (k : Nat) : List Nat := (List.range k).filter fun i => !(es i).nan
def nbs (es : Nat → En) (l : List Nat) : List Value := l.flatMap fun i => nb (es i).rect (i : Nat) (es i).key

theorem callsL_succ (k : Nat) : callsL (k + 1) = callsL k ++ [.int .i64 (k : Nat)] := by simp [callsL, List.range_succ]
theorem nansTo_succ (es : Nat → En) (k : Nat) : nansTo es (k + 1) = nansTo es k ++ if (es k).nan then [k] else [] := by
  simp only [nansTo, List.range_succ, List.filter_append]
  cases h : (es k).nan <;> simp [h]
theorem rankTo_succ (es : Nat → En) (k : Nat) : rankTo es (k + 1) = rankTo es k ++ if (es k).nan then [] else [k] := by
  simp only [rankTo, List.range_succ, List.filter_append]
  cases h : (es k).nan <;> simp [h]

/-- The state. -/
structure St2 (X : Cx) (w0 w : World) (k : Nat) (cl : List Value) (un : Nat) (ul : List Value) (gn : Nat) (gl : List Value) (cv uv gv : Value) (m : Nat) (g : Nat → Cd) (qs : List Nat) : Prop where
  f : Fx X w0 w
  a : Ac3 X w k cl un ul gn gl cv uv gv
  q : Qs X w m g qs

section
variable {X : Cx} {w0 w w' : World} {k : Nat} {cl : List Value} {un : Nat} {ul : List Value} {gn : Nat} {gl : List Value} {cv uv gv : Value} {m : Nat} {g : Nat → Cd} {qs : List Nat}

/-- A step that only makes new memory. -/
theorem St2.far (h : St2 X w0 w k cl un ul gn gl cv uv gv m g qs) (ok : X.ok) (hc : Chg (fun _ => False) w w') : St2 X w0 w' k cl un ul gn gl cv uv gv m g qs :=
  ⟨h.f.chg ok hc (fun _ f => f.elim), h.a.far ok hc (fun _ f => f.elim), h.q.far hc id⟩
theorem St2.drewN (h : St2 X w0 w k cl un ul gn gl cv uv gv m g qs) (ok : X.ok) (q : Nat) : St2 X w0 (w.drewN q) k cl un ul gn gl cv uv gv m g qs := h.far ok ((Chg.refl _ w).drewN q)
/-- A step of the queue. -/
theorem St2.queue (h : St2 X w0 w k cl un ul gn gl cv uv gv m g qs) (ok : X.ok) (hc : w.grownBy w' (some X.R)) {m' : Nat} {g' : Nat → Cd} {qs' : List Nat} (hq : Qs X w' m' g' qs') : St2 X w0 w' k cl un ul gn gl cv uv gv m' g' qs' :=
  ⟨h.f.chg ok (Chg.of_grown hc) (fun j f => .inr (.inr (.inl (by cases f; rfl)))), h.a.far ok (Chg.of_grown hc) (fun j f => by cases f; rfl), hq⟩

theorem St2.growC (h : St2 X w0 w k cl un ul gn gl cv uv gv m g qs) (ok : X.ok) {cv' : Value} {k' : Nat} {cl' : List Value} (hA : Acc w' X.base ⟨X.C, 0, none⟩ 3 1 cv' k' cl') (hG : Grew w w' ⟨X.C, 0, none⟩ cv cv') : St2 X w0 w' k' cl' un ul gn gl cv' uv gv m g qs := by
  refine ⟨h.f.chg ok hG.1 ?_, h.a.growC ok hA hG, h.q.far hG.1 ?_⟩
  · rintro j (f | f)
    · exact .inl f
    · exact .inr (.inr (.inr (own_lt h.a.c.own f).1))
  · rintro (f | f)
    · exact ok.d1.2.1 f.symm
    · exact absurd (own_lt h.a.c.own f).1 (Nat.not_le.2 ok.e6)
theorem St2.growG (h : St2 X w0 w k cl un ul gn gl cv uv gv m g qs) (ok : X.ok) {gv' : Value} {gn' : Nat} {gl' : List Value} (hA : Acc w' X.base ⟨X.G, 0, none⟩ 66 6 gv' gn' gl') (hG : Grew w w' ⟨X.G, 0, none⟩ gv gv') : St2 X w0 w' k cl un ul gn' gl' cv uv gv' m g qs := by
  refine ⟨h.f.chg ok hG.1 ?_, h.a.growG ok hA hG, h.q.far hG.1 ?_⟩
  · rintro j (f | f)
    · exact .inr (.inl f)
    · exact .inr (.inr (.inr (own_lt h.a.g.own f).1))
  · rintro (f | f)
    · exact ok.d1.2.2.2.1 f.symm
    · exact absurd (own_lt h.a.g.own f).1 (Nat.not_le.2 ok.e6)
theorem St2.growU (h : St2 X w0 w k cl un ul gn gl cv uv gv m g qs) (ok : X.ok) {uv' : Value} {un' : Nat} {ul' : List Value} (hA : Acc w' X.base ⟨X.K, 4, none⟩ 66 6 uv' un' ul') (hG : Grew w w' ⟨X.K, 4, none⟩ uv uv')
    (h2 : w'.cell? ⟨X.K, 2, none⟩ = w.cell? ⟨X.K, 2, none⟩) (h3 : w'.cell? ⟨X.K, 3, none⟩ = w.cell? ⟨X.K, 3, none⟩) : St2 X w0 w' k cl un' ul' gn gl cv uv' gv m g qs := by
  refine ⟨h.f.chgK ok hG.1 ?_ h2 h3, h.a.growU ok hA hG, h.q.far hG.1 ?_⟩
  · rintro j (f | f)
    · exact .inl f
    · exact .inr (own_lt h.a.u.own f).1
  · rintro (f | f)
    · exact ok.d1.2.2.2.2.2 f
    · exact absurd (own_lt h.a.u.own f).1 (Nat.not_le.2 ok.e6)

/-- The ranking function, called with entry k. -/
theorem St2.dist (h : St2 X w0 w k cl un ul gn gl cv uv gv m g qs) (ok : X.ok) (hk : k < X.n) :
    Calls Yba.prog 12 #[.agg #[.float .f64 (X.es k).rect.a, .float .f64 (X.es k).rect.b, .float .f64 (X.es k).rect.c, .float .f64 (X.es k).rect.d], .int .i64 k, .pointer (some ⟨X.C, 0, none⟩), .pointer (some ⟨X.E, 0, none⟩)] w fun e w' =>
      e = .returned (.float .f64 (X.es k).key) ∧ ∃ cv', St2 X w0 w' (k + 1) (cl ++ [.int .i64 (k : Nat)]) un ul gn gl cv' uv gv m g qs := by
  have n40 := ok.n40
  refine (dist_any X.base X.C X.E X.eb X.off X.n X.cap k k X.es (X.es k).rect cv cl w hk (by omega) (by omega) h.a.c h.f.ev h.f.es ok.e1 ok.e2 ok.c1.1 ok.c1.2.1).mono ?_
  rintro e w' ⟨rfl, v', hA, hG⟩
  exact ⟨rfl, v', h.growC ok hA hG⟩

/-- The taking function. -/
theorem St2.take (h : St2 X w0 w k cl un ul gn gl cv uv gv m g qs) (ok : X.ok) (hg : gn ≤ 1000) (r : R4) (it : Int) (ky : Nat) :
    Calls Yba.prog 15 #[.agg (nb r it ky).toArray, .pointer (some ⟨X.G, 0, none⟩)] w fun e w' =>
      e = .returned (.bool true) ∧ ∃ gv', St2 X w0 w' k cl un ul (gn + 1) (gl ++ nb r it ky) cv uv gv' m g qs := by
  refine (take2_any X.base X.G gn r it ky gv gl w hg h.a.g).mono ?_
  rintro e w' ⟨rfl, v', hA, hG⟩
  exact ⟨rfl, v', h.growG ok hA hG⟩

theorem leaf_rect {es : Nat → En} {k n : Nat} {u : Int} (hk : k < n) : (leafN es 0 n u).rect k = (es k).rect := by simp [leafN, hk]
theorem leaf_item {es : Nat → En} {k n : Nat} {u : Int} (hk : k < n) : (leafN es 0 n u).item k = (k : Int) := by simp [leafN, hk]

/-- The cells of slot k of the leaf. -/
theorem Fx.slot {X : Cx} {w0 w : World} (h : Fx X w0 w) (ok : X.ok) {k : Nat} (hk : k < X.n) :
    w.cell? ⟨X.N, 6 + k * 4, none⟩ = some (.float .f64 (X.es k).rect.a) ∧ w.cell? ⟨X.N, 6 + k * 4 + 1, none⟩ = some (.float .f64 (X.es k).rect.b) ∧ w.cell? ⟨X.N, 6 + k * 4 + 2, none⟩ = some (.float .f64 (X.es k).rect.c) ∧ w.cell? ⟨X.N, 6 + k * 4 + 3, none⟩ = some (.float .f64 (X.es k).rect.d) ∧
    w.cell? ⟨X.N, 166 + k * 3 + 1 + 1, none⟩ = some (.int .i64 (k : Nat)) ∧ w.cell? ⟨X.N, 166 + k * 3 + 1, none⟩ = some (.pointer none) := by
  have n40 := ok.n40
  have h40 : k < 40 := by omega
  have e := leaf_rect (es := X.es) (u := X.n) hk
  refine ⟨?_, ?_, ?_, ?_, ?_, ?_⟩
  · rw [← e]; exact h.nd.ra h40
  · rw [← e]; exact h.nd.rb h40
  · rw [← e]; exact h.nd.rc h40
  · rw [← e]; exact h.nd.rd h40
  · rw [← leaf_item (es := X.es) (u := X.n) hk]; exact h.nd.itc h40
  · exact h.nd.chc h40
end

end Go.Proofs.Ybulkazxi
