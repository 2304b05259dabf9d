/-
  walk under a ranking function: the nearest is taken off; the set-aside ones read back.
-/
import Derived.Test.YbulkazxiWalk2Start
namespace Go.Proofs.Ybulkazxi
open Go.RowKit

def kf (es : Nat → En) (i : Nat) : Int := fv (es i).key

section
variable {X : Cx} {w0 w : World} {k : Nat} {cl : List Value} {un : Nat} {ul : List Value} {gn : Nat} {gl : List Value} {cv uv gv : Value} {m : Nat} {g : Nat → Cd} {qs : List Nat}

theorem cd_rk (i : Nat) : rk (X.cd i) = 2 * kf X.es i := by simp [rk, Cx.cd, kf]

theorem St2.queueC {w' : World} (h : St2 X w0 w k cl un ul gn gl cv uv gv m g qs) (ok : X.ok) (hc : Chg (fun j => j = X.R) w w') {m' : Nat} {g' : Nat → Cd} {qs' : List Nat} (hq : Qs X w' m' g' qs') : St2 X w0 w' k cl un ul gn gl cv uv gv m' g' qs' :=
  ⟨h.f.chg ok hc (fun _ f => .inr (.inr (.inl f))), h.a.far ok hc (fun _ f => f), hq⟩

/-- A variable is made, the nearest candidate is taken off the queue and laid into it. -/
theorem St2.pop (h : St2 X w0 w k cl un ul gn gl cv uv gv (m + 1) g qs) (ok : X.ok) (o : Obj) :
    Calls Yba.prog 23 #[.slice (some ⟨X.R, 0, none⟩) (m + 1) 320] (w.alloc o) fun e w' => ∃ i qs' g',
      e = .returned (.tuple #[.agg #[.pointer (some ⟨X.N, 6 + i * 4, none⟩), .pointer (some ⟨X.N, 166 + i * 3 + 1, none⟩), .float .f64 (X.es i).key], .slice (some ⟨X.R, 0, none⟩) m 320]) ∧
      (i < X.n ∧ qs.Perm (i :: qs') ∧ ∀ b ∈ qs', kf X.es i ≤ kf X.es b) ∧ w'.heap[w.heap.size]? = some o ∧
      ∀ a b c : Value, St2 X w0 (((w'.setCell ⟨w.heap.size, 0, none⟩ a).setCell ⟨w.heap.size, 1, none⟩ b).setCell ⟨w.heap.size, 2, none⟩ c) k cl un ul gn gl cv uv gv m g' qs' := by
  have hS := h.far ok ((Chg.refl _ w).alloc o)
  have hQ := hS.q
  have n40 := ok.n40
  have hR : X.R < w.heap.size := h.q.at_.lt
  have hm : m < 320 := by
    have := h.q.at_
    obtain ⟨c, t, hb, hs, hc⟩ := this
    have h1 := (hc m (by omega)).1
    have h2 := (Array.getElem?_eq_some_iff.1 h1).1
    omega
  have hmem : g 0 ∈ qs.map X.cd := hQ.perm.mem_iff.1 (mem_L.2 ⟨0, by omega, rfl⟩)
  obtain ⟨i, hi, he⟩ := List.mem_map.1 hmem
  have hp : qs.Perm (i :: qs.erase i) := List.perm_cons_erase hi
  refine (pop_any X.R m g (w.alloc o) hm hQ.at_ (hQ.good hS.f ok) hQ.heap).mono ?_
  rintro e w' ⟨rfl, g', h1, h2, h3, h4⟩
  refine ⟨i, qs.erase i, g', ?_, ⟨(hQ.all i hi).1, hp, ?_⟩, ?_, fun a b c => ?_⟩
  · rw [← he]; rfl
  · intro b hb
    have hb' : X.cd b ∈ L g (m + 1) := hQ.perm.mem_iff.2 (List.mem_map_of_mem (List.mem_of_mem_erase hb))
    obtain ⟨j, hj, hje⟩ := mem_L.1 hb'
    have := hQ.heap.min j j (Nat.le_refl _) hj
    rw [hje, ← he, cd_rk, cd_rk] at this
    omega
  · exact (h4.block _ (by simp) (by intro e; have := Option.some.inj e; omega)).trans (heap_alloc_new w o)
  · have c0 : Chg (fun j => j = X.R) w w' := ((Chg.refl _ w).alloc o).step (Chg.of_grown h4) (fun j hj => .inl (by cases hj; rfl))
    have c1 : Chg (fun j => j = X.R) w (((w'.setCell ⟨w.heap.size, 0, none⟩ a).setCell ⟨w.heap.size, 1, none⟩ b).setCell ⟨w.heap.size, 2, none⟩ c) := ((c0.setCell (.inr (Nat.le_refl _)) _).setCell (.inr (Nat.le_refl _)) _).setCell (.inr (Nat.le_refl _)) _
    have c2 : Chg (fun j => j = w.heap.size) w' (((w'.setCell ⟨w.heap.size, 0, none⟩ a).setCell ⟨w.heap.size, 1, none⟩ b).setCell ⟨w.heap.size, 2, none⟩ c) := (((Chg.refl (fun j => j = w.heap.size) w').setCell (p := ⟨w.heap.size, 0, none⟩) (.inl rfl) a).setCell (p := ⟨w.heap.size, 1, none⟩) (.inl rfl) b).setCell (p := ⟨w.heap.size, 2, none⟩) (.inl rfl) c
    refine h.queueC ok c1 (Qs.far ⟨h1, h3, ?_, fun j hj => hQ.all j (List.mem_of_mem_erase hj)⟩ c2 (by omega))
    have h5 : (g 0 :: L g' m).Perm (X.cd i :: (qs.erase i).map X.cd) := h2.trans (hQ.perm.trans (hp.map X.cd))
    rw [← he] at h5
    exact h5.cons_inv
/-- The taking function, with what it turns. -/
theorem St2.take' (h : St2 X w0 w k cl un ul gn gl cv uv gv m g qs) (ok : X.ok) (hg : gn ≤ 1000) (r : R4) (it : Int) (ky : Nat) :
    Calls Yba.prog 15 #[.agg (nb r it ky).toArray, .pointer (some ⟨X.G, 0, none⟩)] w fun e w' =>
      e = .returned (.bool true) ∧ ∃ gv', St2 X w0 w' k cl un ul (gn + 1) (gl ++ nb r it ky) cv uv gv' m g qs ∧ Chg (fun j => j = X.G ∨ gv.ownBlock = some j) w w' := by
  refine (take2_any X.base X.G gn r it ky gv gl w hg h.a.g).mono ?_
  rintro e w' ⟨rfl, v', hA, hG⟩
  exact ⟨rfl, v', h.growG ok hA hG, hG.1⟩
end

/-- The sixfold cells of neighbour number i. -/
theorem nbs_get (es : Nat → En) : ∀ (l : List Nat) (i j : Nat), j < 6 → ∀ a, l[i]? = some a → (nbs es l)[i * 6 + j]? = (nb (es a).rect (a : Nat) (es a).key)[j]? := by
  intro l
  induction l with
  | nil => intro i j _ a h; simp at h
  | cons b l ih =>
    intro i j hj a h
    have hl : (nb (es b).rect (b : Nat) (es b).key).length = 6 := rfl
    have e : nbs es (b :: l) = nb (es b).rect (b : Nat) (es b).key ++ nbs es l := by simp [nbs]
    rw [e]
    cases i with
    | zero =>
      simp at h; subst h
      rw [List.getElem?_append_left (by omega)]; simp
    | succ i =>
      rw [List.getElem?_append_right (by omega)]
      have : (i + 1) * 6 + j - (nb (es b).rect (b : Nat) (es b).key).length = i * 6 + j := by omega
      rw [this]
      exact ih i j hj a (by simpa using h)

theorem nbs_append (es : Nat → En) (a b : List Nat) : nbs es (a ++ b) = nbs es a ++ nbs es b := by simp [nbs]
theorem nbs_one (es : Nat → En) (a : Nat) : nbs es [a] = nb (es a).rect (a : Nat) (es a).key := by simp [nbs]

end Go.Proofs.Ybulkazxi
