/-
  LawS2556ANearestOrder: the plain law. No Go in sight.
-/
import Derived.Test.YbulkazxiDistance
namespace Go.Proofs.Ybulkazxi

/-- An entry's rectangle in whole numbers. -/
def En.i4 (e : En) : I4 := ⟨e.x, e.y, e.x + e.wd, e.y + e.ht⟩
theorem En.i4_fl (e : En) : e.i4.fl = e.rect := rfl
theorem En.i4_ok {e : En} (h : e.ok) : e.i4.ok := by
  obtain ⟨h1, h2, h3, h4, _⟩ := h
  unfold I4.ok En.i4
  simp only
  omega

/-- How many entries lie in child j. -/
def cnt (n j : Nat) : Nat := min 7 (n - 7 * j)
/-- How many children. -/
def cN (n : Nat) : Nat := (n + 6) / 7

theorem cN_lt {n j : Nat} : j < cN n ↔ 7 * j < n := by unfold cN; omega
theorem cnt_le (n j : Nat) : cnt n j ≤ 7 := by unfold cnt; omega
theorem cnt_pos {n j : Nat} (h : 7 * j < n) : 0 < cnt n j := by unfold cnt; omega
theorem cnt_lt {n j i : Nat} (h : i < cnt n j) : 7 * j + i < n := by unfold cnt at h; omega

/-- What waits: an entry, or a child. The entries that come of it. -/
def ents (n : Nat) : Nat ⊕ Nat → List Nat
  | .inl k => [k]
  | .inr j => (List.range (cnt n j)).map fun i => 7 * j + i

theorem cover_upto (n k : Nat) : (List.range k).flatMap (fun j => (List.range (cnt n j)).map fun i => 7 * j + i) = List.range (min (7 * k) n) := by
  induction k with
  | zero => simp
  | succ k ih =>
    rw [List.range_succ, List.flatMap_append, ih]
    have e : min (7 * (k + 1)) n = min (7 * k) n + cnt n k := by unfold cnt; omega
    rw [e, List.range_add]
    by_cases h : 7 * k < n
    · have e2 : min (7 * k) n = 7 * k := by omega
      rw [e2]; simp
    · have e2 : cnt n k = 0 := by unfold cnt; omega
      rw [e2]; simp [e2]

theorem cover_root (n : Nat) : ((List.range (cN n)).map Sum.inr).flatMap (ents n) = List.range n := by
  rw [List.flatMap_map]
  have h := cover_upto n (cN n)
  have e : min (7 * cN n) n = n := by unfold cN; omega
  rw [e] at h
  exact h

/-- What the plain law speaks of. -/
structure Px where
  n : Nat
  es : Nat → En
  bd : Nat → I4
  px : Int
  py : Int
  stop : Nat

def Px.kd (X : Px) (k : Nat) : Int := fv (dk X.px X.py (X.es k).i4)
def Px.kq (X : Px) : Nat ⊕ Nat → Int
  | .inl k => X.kd k
  | .inr j => fv (dk X.px X.py (X.bd j))

structure Px.ok (X : Px) : Prop where
  x : pok X.px
  y : pok X.py
  e : ∀ k, k < X.n → (X.es k).ok
  b : ∀ j, 7 * j < X.n → (X.bd j).ok ∧ ∀ i, i < cnt X.n j → (X.es (7 * j + i)).i4.inn (X.bd j)

def okq (n : Nat) : Nat ⊕ Nat → Prop
  | .inl k => k < n
  | .inr j => 7 * j < n

/-- The walk so far: rs are taken, qs wait. -/
structure P3 (X : Px) (rs : List Nat) (qs : List (Nat ⊕ Nat)) : Prop where
  cover : (rs ++ qs.flatMap (ents X.n)).Perm (List.range X.n)
  ord : rs.Pairwise fun a b => X.kd a ≤ X.kd b
  low : ∀ a ∈ rs, ∀ q ∈ qs, X.kd a ≤ X.kq q
  all : ∀ q ∈ qs, okq X.n q
  stp : X.stop = 0 ∨ rs.length < X.stop

theorem P3.begin (X : Px) : P3 X [] ((List.range (cN X.n)).map Sum.inr) where
  cover := by rw [List.nil_append, cover_root]
  ord := List.Pairwise.nil
  low := fun a ha => by cases ha
  all := fun q hq => by
    obtain ⟨j, hj, rfl⟩ := List.mem_map.1 hq
    exact cN_lt.1 (List.mem_range.1 hj)
  stp := by simp; omega

theorem P3.opened {X : Px} {rs : List Nat} {qs qs' : List (Nat ⊕ Nat)} {j : Nat} (h : P3 X rs qs) (ok : X.ok) (hp : qs.Perm (.inr j :: qs')) :
    P3 X rs ((List.range (cnt X.n j)).map (fun i => .inl (7 * j + i)) ++ qs') where
  cover := by
    refine List.Perm.trans (List.Perm.append_left rs ?_) h.cover
    have h1 : (qs.flatMap (ents X.n)).Perm ((Sum.inr j :: qs').flatMap (ents X.n)) := hp.flatMap_right _
    refine List.Perm.trans ?_ h1.symm
    rw [List.flatMap_append, List.flatMap_cons, List.flatMap_map]
    have e : (List.range (cnt X.n j)).flatMap (fun i => ents X.n (Sum.inl (7 * j + i))) = ents X.n (.inr j) := by
      simp only [ents]; exact List.map_eq_flatMap.symm
    rw [e]
  ord := h.ord
  low := fun a ha q hq => by
    rcases List.mem_append.1 hq with hq | hq
    · obtain ⟨i, hi, rfl⟩ := List.mem_map.1 hq
      have hj : Sum.inr j ∈ qs := hp.mem_iff.2 (List.mem_cons_self ..)
      have h1 := h.low a ha _ hj
      have hi' := List.mem_range.1 hi
      have h2 := (ok.b j (h.all _ hj)).2 i hi'
      have h3 : X.kq (.inr j) ≤ X.kq (.inl (7 * j + i)) := dk_mono ok.x ok.y (En.i4_ok (ok.e _ (cnt_lt hi'))) h2
      omega
    · exact h.low a ha q (hp.mem_iff.2 (List.mem_cons_of_mem _ hq))
  all := fun q hq => by
    rcases List.mem_append.1 hq with hq | hq
    · obtain ⟨i, hi, rfl⟩ := List.mem_map.1 hq
      exact cnt_lt (List.mem_range.1 hi)
    · exact h.all q (hp.mem_iff.2 (List.mem_cons_of_mem _ hq))
  stp := h.stp

theorem P3.taken_cover {X : Px} {rs : List Nat} {qs qs' : List (Nat ⊕ Nat)} {k : Nat} (h : P3 X rs qs) (hp : qs.Perm (.inl k :: qs')) : ((rs ++ [k]) ++ qs'.flatMap (ents X.n)).Perm (List.range X.n) := by
  refine List.Perm.trans ?_ h.cover
  rw [List.append_assoc]
  refine List.Perm.append_left rs ?_
  exact (hp.flatMap_right (ents X.n)).symm

theorem P3.taken_ord {X : Px} {rs : List Nat} {qs qs' : List (Nat ⊕ Nat)} {k : Nat} (h : P3 X rs qs) (hp : qs.Perm (.inl k :: qs')) : (rs ++ [k]).Pairwise fun a b => X.kd a ≤ X.kd b := by
  rw [List.pairwise_append]
  refine ⟨h.ord, List.pairwise_singleton _ _, fun a ha b hb => ?_⟩
  rw [List.mem_singleton.1 hb]
  exact h.low a ha (.inl k) (hp.mem_iff.2 (List.mem_cons_self ..))

theorem P3.taken {X : Px} {rs : List Nat} {qs qs' : List (Nat ⊕ Nat)} {k : Nat} (h : P3 X rs qs) (hp : qs.Perm (.inl k :: qs')) (hm : ∀ q ∈ qs', X.kq (.inl k) ≤ X.kq q) (hs : rs.length + 1 ≠ X.stop) : P3 X (rs ++ [k]) qs' where
  cover := h.taken_cover hp
  ord := h.taken_ord hp
  low := fun a ha q hq => by
    rcases List.mem_append.1 ha with ha | ha
    · exact h.low a ha q (hp.mem_iff.2 (List.mem_cons_of_mem _ hq))
    · rw [List.mem_singleton.1 ha]; exact hm q hq
  all := fun q hq => h.all q (hp.mem_iff.2 (List.mem_cons_of_mem _ hq))
  stp := by
    have := h.stp
    simp
    omega

/-- What the walk hands on at its end. -/
structure Got (X : Px) (rs : List Nat) : Prop where
  lt : ∀ a ∈ rs, a < X.n
  nodup : rs.Nodup
  ord : rs.Pairwise fun a b => X.kd a ≤ X.kd b
  len : (X.stop ≠ 0 ∧ X.stop < X.n → rs.length = X.stop) ∧ (¬ (X.stop ≠ 0 ∧ X.stop < X.n) → rs.length = X.n)

theorem got_of {X : Px} {rs l : List Nat} (hc : (rs ++ l).Perm (List.range X.n)) : (∀ a ∈ rs, a < X.n) ∧ rs.Nodup ∧ rs.length ≤ X.n := by
  have hnd : (rs ++ l).Nodup := hc.nodup_iff.2 List.nodup_range
  have hl := hc.length_eq
  simp at hl
  refine ⟨fun a ha => List.mem_range.1 (hc.mem_iff.1 (List.mem_append_left _ ha)), (List.nodup_append.1 hnd).1, by omega⟩

theorem P3.done {X : Px} {rs : List Nat} (h : P3 X rs []) : Got X rs := by
  have hc := h.cover
  obtain ⟨h1, h2, h3⟩ := got_of hc
  have hl : rs.length = X.n := by have := hc.length_eq; simpa using this
  have := h.stp
  exact ⟨h1, h2, h.ord, fun hx => by omega, fun _ => hl⟩

theorem P3.stopped {X : Px} {rs : List Nat} {qs qs' : List (Nat ⊕ Nat)} {k : Nat} (h : P3 X rs qs) (hp : qs.Perm (.inl k :: qs')) (hs : rs.length + 1 = X.stop) : Got X (rs ++ [k]) := by
  obtain ⟨h1, h2, h3⟩ := got_of (h.taken_cover hp)
  have hl : (rs ++ [k]).length = X.stop := by simpa using hs
  refine ⟨h1, h2, h.taken_ord hp, fun _ => hl, fun hx => ?_⟩
  rw [hl] at h3 ⊢
  omega

/-- What is left to do. -/
def wt : List (Nat ⊕ Nat) → Nat
  | [] => 0
  | .inl _ :: l => 1 + wt l
  | .inr _ :: l => 8 + wt l

theorem wt_perm {a b : List (Nat ⊕ Nat)} (h : a.Perm b) : wt a = wt b := by
  induction h with
  | nil => rfl
  | cons x _ ih => cases x <;> simp [wt, ih]
  | swap x y l => cases x <;> cases y <;> simp [wt] <;> omega
  | trans _ _ h1 h2 => exact h1.trans h2

theorem wt_append (a b : List (Nat ⊕ Nat)) : wt (a ++ b) = wt a + wt b := by
  induction a with
  | nil => simp [wt]
  | cons x l ih => cases x <;> simp [wt, ih] <;> omega

theorem wt_inl (f : Nat → Nat) (l : List Nat) : wt (l.map fun i => .inl (f i)) = l.length := by
  induction l with
  | nil => rfl
  | cons x l ih => simp [wt, ih]; omega

theorem wt_opened {n j : Nat} {qs qs' : List (Nat ⊕ Nat)} (hp : qs.Perm (.inr j :: qs')) : wt ((List.range (cnt n j)).map (fun i => .inl (7 * j + i)) ++ qs') < wt qs := by
  rw [wt_perm hp, wt_append, wt_inl (fun i => 7 * j + i)]
  have := cnt_le n j
  simp [wt]
  omega
theorem wt_taken {k : Nat} {qs qs' : List (Nat ⊕ Nat)} (hp : qs.Perm (.inl k :: qs')) : wt qs' < wt qs := by
  rw [wt_perm hp]; simp [wt]

/-- So many wait at most. -/
theorem wait_le {n : Nat} : ∀ {qs : List (Nat ⊕ Nat)}, (∀ q ∈ qs, okq n q) → qs.length ≤ (qs.flatMap (ents n)).length := by
  intro qs
  induction qs with
  | nil => intro _; simp
  | cons q l ih =>
    intro h
    have h1 := ih fun x hx => h x (List.mem_cons_of_mem _ hx)
    have h2 : 1 ≤ (ents n q).length := by
      have := h q (List.mem_cons_self ..)
      cases q with
      | inl k => simp [ents]
      | inr j => simp [ents]; exact cnt_pos this
    rw [List.flatMap_cons, List.length_append, List.length_cons]
    omega

theorem P3.few {X : Px} {rs : List Nat} {qs : List (Nat ⊕ Nat)} (h : P3 X rs qs) : rs.length + qs.length ≤ X.n := by
  have h1 := h.cover.length_eq
  have h2 := wait_le h.all
  simp only [List.length_append, List.length_range] at h1
  omega

end Go.Proofs.Ybulkazxi
