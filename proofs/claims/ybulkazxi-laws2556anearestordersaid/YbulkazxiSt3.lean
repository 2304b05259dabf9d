/-
  The state of the first law's walk, and its steps.
-/
import Derived.Test.YbulkazxiReach3
import Derived.Test.YbulkazxiPlain3
import Derived.Test.YbulkazxiPop
import Derived.Test.YbulkazxiWalk2Start
namespace Go.Proofs.Ybulkazxi
open Go.RowKit

/-- Where things lie. -/
structure Tx where
  P : Px
  N : Nat
  ch : Nat → Nat
  G : Nat
  T : Nat
  R : Nat
  K : Nat
  base : Nat

def rootN (bd : Nat → I4) (ch : Nat → Nat) (k : Nat) (u : Int) : Nd :=
  { leaf := false, used := u, rect := fun j => if j < k then (bd j).fl else ⟨0, 0, 0, 0⟩, child := fun j => if j < k then some (ch j) else none, item := fun _ => 0 }

structure Tree (P : Px) (N : Nat) (ch : Nat → Nat) (w : World) : Prop where
  root : NodeAt w N (rootN P.bd ch (cN P.n) (cN P.n))
  kids : ∀ j, 7 * j < P.n → NodeAt w (ch j) (leafN P.es (7 * j) (cnt P.n j) (cnt P.n j))

theorem Tree.chg {F : Nat → Prop} {P : Px} {N : Nat} {ch : Nat → Nat} {w w' : World} (h : Tree P N ch w) (hc : Chg F w w') (hN : ¬ F N) (hk : ∀ j, 7 * j < P.n → ¬ F (ch j)) : Tree P N ch w' :=
  ⟨h.root.chg hc hN, fun j hj => (h.kids j hj).chg hc (hk j hj)⟩

/-- The candidate of what waits. -/
def Tx.cd (X : Tx) : Nat ⊕ Nat → Cd
  | .inl k => ⟨X.ch (k / 7), 6 + k % 7 * 4, X.ch (k / 7), 166 + k % 7 * 3 + 1, dk X.P.px X.P.py (X.P.es k).i4, none⟩
  | .inr j => ⟨X.N, 6 + j * 4, X.N, 166 + j * 3 + 1, dk X.P.px X.P.py (X.P.bd j), some (X.ch j)⟩

theorem Tx.kq_le {X : Tx} {a b : Nat ⊕ Nat} (h : rk (X.cd a) ≤ rk (X.cd b)) : X.P.kq a ≤ X.P.kq b := by
  cases a <;> cases b <;> simp [rk, Tx.cd, Px.kq, Px.kd] at h ⊢ <;> omega

/-- The cells of the taken ones. -/
def nb3 (P : Px) (rs : List Nat) : List Value := rs.flatMap fun k => nb (P.es k).rect (k : Nat) (dk P.px P.py (P.es k).i4)

theorem nb3_append (P : Px) (a b : List Nat) : nb3 P (a ++ b) = nb3 P a ++ nb3 P b := by simp [nb3]
theorem nb3_one (P : Px) (k : Nat) : nb3 P [k] = nb (P.es k).rect (k : Nat) (dk P.px P.py (P.es k).i4) := by simp [nb3]

theorem nb3_get (P : Px) : ∀ (l : List Nat) (i j : Nat), j < 6 → ∀ a, l[i]? = some a → (nb3 P l)[i * 6 + j]? = (nb (P.es a).rect (a : Nat) (dk P.px P.py (P.es a).i4))[j]? := by
  intro l
  induction l with
  | nil => intro i j _ a h; simp at h
  | cons b l ih =>
    intro i j hj a h
    have hl : (nb (P.es b).rect (b : Nat) (dk P.px P.py (P.es b).i4)).length = 6 := rfl
    have e : nb3 P (b :: l) = nb (P.es b).rect (b : Nat) (dk P.px P.py (P.es b).i4) ++ nb3 P l := by simp [nb3]
    rw [e]
    cases i with
    | zero =>
      simp at h; subst h
      rw [List.getElem?_append_left (by omega)]; simp
    | succ i =>
      rw [List.getElem?_append_right (by omega)]
      have : (i + 1) * 6 + j - (nb (P.es b).rect (b : Nat) (dk P.px P.py (P.es b).i4)).length = i * 6 + j := by omega
      rw [this]
      exact ih i j hj a (by simpa using h)

/-- How things lie where the walk begins. -/
structure Wi (X : Tx) (wi : World) : Prop where
  tree : Tree X.P X.N X.ch wi
  ok : X.P.ok
  n280 : X.P.n ≤ 280
  gN : X.N ≠ X.G
  gk : ∀ j, 7 * j < X.P.n → X.ch j ≠ X.G
  gl : X.G < wi.heap.size
  gc : wi.cell? ⟨X.G, 0, none⟩ = some (.slice none 0 0) ∧ wi.frozen? ⟨X.G, 0, none⟩ = false
  tl : X.T < wi.heap.size
  tG : X.T ≠ X.G
  tc : wi.cell? ⟨X.T, 0, none⟩ = some (.int .i64 (X.P.stop : Nat))
  r : X.R = wi.heap.size + 1 + 1
  k : X.K = wi.heap.size + 1 + 1 + 1
  b : X.base = wi.heap.size + 1 + 1 + 1 + 1

/-- The state. -/
structure St3 (X : Tx) (wi w : World) (rs : List Nat) (qs : List (Nat ⊕ Nat)) (m : Nat) (g : Nat → Cd) (gv : Value) : Prop where
  chg : Chg (fun j => j = X.G) wi w
  k : Kat w X.K X.P.px X.P.py
  q : Qm w X.R m g
  perm : (L g m).Perm (qs.map X.cd)
  a : Acc w X.base ⟨X.G, 0, none⟩ 66 6 gv rs.length (nb3 X.P rs)

section
variable {X : Tx} {wi w : World} {rs : List Nat} {qs : List (Nat ⊕ Nat)} {m : Nat} {g : Nat → Cd} {gv : Value}

theorem St3.len (h : St3 X wi w rs qs m g gv) : m = qs.length := by
  have := h.perm.length_eq
  simpa [L] using this

theorem St3.tree (h : St3 X wi w rs qs m g gv) (hW : Wi X wi) : Tree X.P X.N X.ch w := hW.tree.chg h.chg hW.gN hW.gk

theorem St3.stop (h : St3 X wi w rs qs m g gv) (hW : Wi X wi) : w.cell? ⟨X.T, 0, none⟩ = some (.int .i64 (X.P.stop : Nat)) := (h.chg.cell (p := ⟨X.T, 0, none⟩) hW.tl hW.tG).trans hW.tc

theorem Qm.chg {F : Nat → Prop} {w w' : World} {R m : Nat} {g : Nat → Cd} (h : Qm w R m g) (hc : Chg F w w') (hR : ¬ F R) (hg : ∀ j, j < m → ¬ F (g j).tb) : Qm w' R m g :=
  ⟨h.at_.chg hc hR, h.heap, fun j hj => (h.good j hj).chg hc (hg j hj)⟩

/-- A step that only makes new memory. -/
theorem St3.far (h : St3 X wi w rs qs m g gv) {w' : World} (hc : Chg (fun _ => False) w w') : St3 X wi w' rs qs m g gv :=
  ⟨h.chg.trans (hc.mono fun _ f => f.elim), h.k.chg hc id, h.q.far hc, h.perm, h.a.chg hc id (fun _ _ f => f)⟩

/-- A step of the queue. -/
theorem St3.queue (h : St3 X wi w rs qs m g gv) (hW : Wi X wi) {w' : World} (hc : Chg (fun j => j = X.R) w w') {m' : Nat} {g' : Nat → Cd} {qs' : List (Nat ⊕ Nat)} (hq : Qm w' X.R m' g') (hp : (L g' m').Perm (qs'.map X.cd)) : St3 X wi w' rs qs' m' g' gv := by
  have hr := hW.r; have hk := hW.k; have hb := hW.b; have hg := hW.gl
  refine ⟨h.chg.step hc (fun j hj => .inr (by omega)), h.k.chg hc (by omega), hq, hp, h.a.chg hc (by show ¬ X.G = X.R; omega) (fun g hg f => ?_)⟩
  have := (own_lt h.a.own hg).1
  omega

/-- Where a candidate's target lies. -/
theorem cd_tb (hW : Wi X wi) {q : Nat ⊕ Nat} (hq : okq X.P.n q) : (X.cd q).tb < wi.heap.size ∧ (X.cd q).tb ≠ X.G ∧ (X.cd q).tb ≠ X.R ∧ (X.cd q).tb ≠ X.K := by
  have hr := hW.r; have hk := hW.k
  cases q with
  | inl k =>
    have hj : 7 * (k / 7) < X.P.n := by have : k < X.P.n := hq; omega
    have := (hW.tree.kids (k / 7) hj).lt
    have := hW.gk (k / 7) hj
    simp only [Tx.cd]
    omega
  | inr j =>
    have := hW.tree.root.lt
    have := hW.gN
    simp only [Tx.cd]
    omega

theorem St3.tbs (h : St3 X wi w rs qs m g gv) (hW : Wi X wi) (hall : ∀ q ∈ qs, okq X.P.n q) {j : Nat} (hj : j < m) : (g j).tb < wi.heap.size ∧ (g j).tb ≠ X.G ∧ (g j).tb ≠ X.R ∧ (g j).tb ≠ X.K := by
  have : g j ∈ qs.map X.cd := h.perm.mem_iff.1 (mem_L.2 ⟨j, hj, rfl⟩)
  obtain ⟨q, hq, he⟩ := List.mem_map.1 this
  rw [← he]
  exact cd_tb hW (hall q hq)

/-- The taking function. -/
theorem St3.take (h : St3 X wi w rs qs m g gv) (hW : Wi X wi) (hall : ∀ q ∈ qs, okq X.P.n q) (hn : rs.length ≤ 1000) (k : Nat) :
    Calls Yba.prog 9 #[.agg (nb (X.P.es k).rect (k : Nat) (dk X.P.px X.P.py (X.P.es k).i4)).toArray, .pointer (some ⟨X.G, 0, none⟩), .pointer (some ⟨X.T, 0, none⟩)] w fun e w' =>
      e = .returned (.bool (decide (rs.length + 1 ≠ X.P.stop))) ∧ ∃ gv', St3 X wi w' (rs ++ [k]) qs m g gv' ∧ Chg (fun j => j = X.G ∨ gv.ownBlock = some j) w w' := by
  have hr := hW.r; have hk := hW.k; have hb := hW.b; have hg := hW.gl; have ht := hW.tl
  refine (take1_any X.base X.G rs.length (X.P.es k).rect (k : Nat) (dk X.P.px X.P.py (X.P.es k).i4) gv (nb3 X.P rs) w hn h.a X.T X.P.stop (h.stop hW) (by omega) hW.tG).mono ?_
  rintro e w' ⟨rfl, v', hA, hG⟩
  have hfar : ∀ b, b ≠ X.G → b < X.base → ¬ (b = X.G ∨ gv.ownBlock = some b) := fun b h1 h2 f => by
    rcases f with f | f
    · exact h1 f
    · have := (own_lt h.a.own f).1; omega
  refine ⟨rfl, v', ⟨h.chg.step hG.1 (fun j f => ?_), h.k.chg hG.1 (hfar _ (by omega) (by omega)), h.q.chg hG.1 (hfar _ (by omega) (by omega)) (fun j hj => ?_), h.perm, ?_⟩, hG.1⟩
  · rcases f with f | f
    · exact .inl f
    · have := (own_lt h.a.own f).1; right; omega
  · have := h.tbs hW hall hj
    exact hfar _ this.2.1 (by omega)
  · rw [nb3_append, nb3_one, List.length_append]; exact hA

/-- A variable is made, the nearest candidate is taken off the queue and laid into it. -/
theorem St3.pop (h : St3 X wi w rs qs (m + 1) g gv) (hW : Wi X wi) (hall : ∀ q ∈ qs, okq X.P.n q) (o : Obj) :
    Calls Yba.prog 23 #[.slice (some ⟨X.R, 0, none⟩) (m + 1) 320] (w.alloc o) fun e w' => ∃ q qs' g',
      e = .returned (.tuple #[.agg #[.pointer (some ⟨(X.cd q).rb, (X.cd q).ro, none⟩), .pointer (some ⟨(X.cd q).tb, (X.cd q).to, none⟩), .float .f64 (X.cd q).ky], .slice (some ⟨X.R, 0, none⟩) m 320]) ∧
      (qs.Perm (q :: qs') ∧ ∀ b ∈ qs', X.P.kq q ≤ X.P.kq b) ∧ w'.heap[w.heap.size]? = some o ∧
      ∀ a b c : Value, St3 X wi (((w'.setCell ⟨w.heap.size, 0, none⟩ a).setCell ⟨w.heap.size, 1, none⟩ b).setCell ⟨w.heap.size, 2, none⟩ c) rs qs' m g' gv := by
  have hS := h.far ((Chg.refl _ w).alloc o)
  have hQ := hS.q
  have hR : X.R < w.heap.size := h.q.at_.lt
  have hm : m < 320 := by
    have := h.q.at_
    obtain ⟨c, t, hb, hs, hc⟩ := this
    have h1 := (hc m (by omega)).1
    have h2 := (Array.getElem?_eq_some_iff.1 h1).1
    omega
  have hmem : g 0 ∈ qs.map X.cd := hS.perm.mem_iff.1 (mem_L.2 ⟨0, by omega, rfl⟩)
  obtain ⟨q, hi, he⟩ := List.mem_map.1 hmem
  obtain ⟨qs', hp⟩ : ∃ qs', qs.Perm (q :: qs') := by
    obtain ⟨l1, l2, rfl⟩ := List.append_of_mem hi
    exact ⟨l1 ++ l2, List.perm_middle⟩
  refine (pop_any X.R m g (w.alloc o) hm hQ.at_ hQ.good hQ.heap).mono ?_
  rintro e w' ⟨rfl, g', h1, h2, h3, h4⟩
  have h5 : (g 0 :: L g' m).Perm (X.cd q :: qs'.map X.cd) := h2.trans (hS.perm.trans (hp.map X.cd))
  rw [← he] at h5
  have h6 := h5.cons_inv
  refine ⟨q, qs', g', ?_, ⟨hp, ?_⟩, ?_, fun a b c => ?_⟩
  · rw [← he]
  · intro b hb
    have hb' : X.cd b ∈ L g (m + 1) := hS.perm.mem_iff.2 (List.mem_map_of_mem (hp.mem_iff.2 (List.mem_cons_of_mem _ hb)))
    obtain ⟨j, hj, hje⟩ := mem_L.1 hb'
    have := hQ.heap.min j j (Nat.le_refl _) hj
    rw [hje, ← he] at this
    exact Tx.kq_le this
  · exact (h4.block _ (by simp) (by intro e; have := Option.some.inj e; omega)).trans (heap_alloc_new w o)
  · have c0 : Chg (fun j => j = X.R) w w' := ((Chg.refl _ w).alloc o).step (Chg.of_grown h4) (fun j hj => .inl (by cases hj; rfl))
    have c1 : Chg (fun j => j = X.R) w (((w'.setCell ⟨w.heap.size, 0, none⟩ a).setCell ⟨w.heap.size, 1, none⟩ b).setCell ⟨w.heap.size, 2, none⟩ c) := ((c0.setCell (.inr (Nat.le_refl _)) _).setCell (.inr (Nat.le_refl _)) _).setCell (.inr (Nat.le_refl _)) _
    have c2 : Chg (fun j => j = w.heap.size) w' (((w'.setCell ⟨w.heap.size, 0, none⟩ a).setCell ⟨w.heap.size, 1, none⟩ b).setCell ⟨w.heap.size, 2, none⟩ c) := (((Chg.refl (fun j => j = w.heap.size) w').setCell (p := ⟨w.heap.size, 0, none⟩) (.inl rfl) a).setCell (p := ⟨w.heap.size, 1, none⟩) (.inl rfl) b).setCell (p := ⟨w.heap.size, 2, none⟩) (.inl rfl) c
    refine h.queue hW c1 (Qm.chg ⟨h1, h3, fun j hj => ?_⟩ c2 (by omega) (fun j hj => ?_)) h6
    · have hg : g' j ∈ g 0 :: L g' m := List.mem_cons_of_mem _ (mem_L.2 ⟨j, hj, rfl⟩)
      obtain ⟨i, hi, hie⟩ := mem_L.1 (h2.mem_iff.1 hg)
      rw [← hie]; exact (hQ.good i hi).grown h4
    · have hg : g' j ∈ g 0 :: L g' m := List.mem_cons_of_mem _ (mem_L.2 ⟨j, hj, rfl⟩)
      obtain ⟨i, hi, hie⟩ := mem_L.1 (h2.mem_iff.1 hg)
      have := (h.q.good i hi).1
      rw [← hie]; omega

/-- A child's entries go into the queue. -/
theorem St3.reach (h : St3 X wi w rs qs m g gv) (hW : Wi X wi) {j : Nat} (hj : 7 * j < X.P.n) (hm : m ≤ 300) :
    Calls Yba.prog 22 #[.slice (some ⟨X.R, 0, none⟩) m 320, .pointer (some ⟨X.ch j, 0, none⟩), .pointer (some ⟨X.K, 0, none⟩)] w fun e w' =>
      e = .returned (.slice (some ⟨X.R, 0, none⟩) (m + cnt X.P.n j) 320) ∧ ∃ g', St3 X wi w' rs ((List.range (cnt X.P.n j)).map (fun i => .inl (7 * j + i)) ++ qs) (m + cnt X.P.n j) g' gv := by
  have hr := hW.r; have hk := hW.k
  have hkd := (h.tree hW).kids j hj
  have hc := cnt_le X.P.n j
  have hlt := (hW.tree.kids j hj).lt
  refine (reach3_any X.R X.K (X.ch j) (cnt X.P.n j) (leafN X.P.es (7 * j) (cnt X.P.n j) (cnt X.P.n j)) (fun i => (X.P.es (7 * j + i)).i4) X.P.px X.P.py m g w hW.ok.x hW.ok.y hkd rfl (by omega) (fun i hi => ⟨by simp [leafN, hi, En.i4_fl], En.i4_ok (hW.ok.e _ (cnt_lt hi))⟩) h.k (by omega) (by omega) h.q (by omega)).mono ?_
  rintro e w' ⟨rfl, g', hq, hp, hch⟩
  refine ⟨rfl, g', h.queue hW hch hq ?_⟩
  rw [List.map_append, List.map_map]
  refine hp.trans (List.Perm.append (List.Perm.of_eq ?_) h.perm)
  refine List.map_congr_left fun i hi => ?_
  have hi' : i < 7 := Nat.lt_of_lt_of_le (List.mem_range.1 hi) hc
  have e1 : (7 * j + i) / 7 = j := by omega
  have e2 : (7 * j + i) % 7 = i := by omega
  simp only [ncd, Function.comp, Tx.cd, e1, e2, leafN]

/-- The root's children go into the queue. -/
theorem St3.reachRoot (h : St3 X wi w rs [] 0 g gv) (hW : Wi X wi) :
    Calls Yba.prog 22 #[.slice (some ⟨X.R, 0, none⟩) 0 320, .pointer (some ⟨X.N, 0, none⟩), .pointer (some ⟨X.K, 0, none⟩)] w fun e w' =>
      e = .returned (.slice (some ⟨X.R, 0, none⟩) (cN X.P.n) 320) ∧ ∃ g', St3 X wi w' rs ((List.range (cN X.P.n)).map Sum.inr) (cN X.P.n) g' gv := by
  have hr := hW.r; have hk := hW.k
  have hn := hW.n280
  have hcn : cN X.P.n ≤ 40 := by unfold cN; omega
  have hlt := hW.tree.root.lt
  have h0 := reach3_any X.R X.K X.N (cN X.P.n) (rootN X.P.bd X.ch (cN X.P.n) (cN X.P.n)) X.P.bd X.P.px X.P.py 0 g w hW.ok.x hW.ok.y (h.tree hW).root rfl hcn (fun i hi => ⟨by simp [rootN, hi], (hW.ok.b i (cN_lt.1 hi)).1⟩) h.k (by omega) (by omega) h.q (by omega)
  rw [Nat.zero_add] at h0
  refine h0.mono ?_
  rintro e w' ⟨rfl, g', hq, hp, hch⟩
  refine ⟨rfl, g', h.queue hW hch hq ?_⟩
  rw [List.map_map]
  refine hp.trans (List.Perm.of_eq ?_)
  simp only [L, List.range_zero, List.map_nil, List.append_nil]
  refine List.map_congr_left fun i hi => ?_
  have hi' := List.mem_range.1 hi
  simp only [ncd, Function.comp, Tx.cd, rootN, hi', if_true]

/-- The cells of an entry's slot. -/
theorem St3.slot (h : St3 X wi w rs qs m g gv) (hW : Wi X wi) {k : Nat} (hk : k < X.P.n) :
    w.cell? ⟨X.ch (k / 7), 6 + k % 7 * 4, none⟩ = some (.float .f64 (X.P.es k).rect.a) ∧ w.cell? ⟨X.ch (k / 7), 6 + k % 7 * 4 + 1, none⟩ = some (.float .f64 (X.P.es k).rect.b) ∧ w.cell? ⟨X.ch (k / 7), 6 + k % 7 * 4 + 2, none⟩ = some (.float .f64 (X.P.es k).rect.c) ∧ w.cell? ⟨X.ch (k / 7), 6 + k % 7 * 4 + 3, none⟩ = some (.float .f64 (X.P.es k).rect.d) ∧
    w.cell? ⟨X.ch (k / 7), 166 + k % 7 * 3 + 1 + 1, none⟩ = some (.int .i64 (k : Nat)) ∧ w.cell? ⟨X.ch (k / 7), 166 + k % 7 * 3 + 1, none⟩ = some (.pointer none) := by
  have hj : 7 * (k / 7) < X.P.n := by omega
  have hN := (h.tree hW).kids (k / 7) hj
  have h40 : k % 7 < 40 := by omega
  have hc : k % 7 < cnt X.P.n (k / 7) := by unfold cnt; omega
  have e : 7 * (k / 7) + k % 7 = k := by omega
  have e1 : (leafN X.P.es (7 * (k / 7)) (cnt X.P.n (k / 7)) (cnt X.P.n (k / 7))).rect (k % 7) = (X.P.es k).rect := by simp only [leafN, hc, if_true, e]
  have e2 : (leafN X.P.es (7 * (k / 7)) (cnt X.P.n (k / 7)) (cnt X.P.n (k / 7))).item (k % 7) = (k : Int) := by simp only [leafN, hc, if_true, e]
  refine ⟨?_, ?_, ?_, ?_, ?_, ?_⟩
  · rw [← e1]; exact hN.ra h40
  · rw [← e1]; exact hN.rb h40
  · rw [← e1]; exact hN.rc h40
  · rw [← e1]; exact hN.rd h40
  · rw [← e2]; exact hN.itc h40
  · exact hN.chc h40

theorem St3.kid (h : St3 X wi w rs qs m g gv) (hW : Wi X wi) {j : Nat} (hj : 7 * j < X.P.n) : w.cell? ⟨X.N, 166 + j * 3 + 1, none⟩ = some (.pointer (some ⟨X.ch j, 0, none⟩)) := by
  have hn := hW.n280
  have hjn : j < cN X.P.n := cN_lt.2 hj
  have := (h.tree hW).root.chc (i := j) (by omega)
  rw [this]
  simp [rootN, hjn, chp]
end

end Go.Proofs.Ybulkazxi
