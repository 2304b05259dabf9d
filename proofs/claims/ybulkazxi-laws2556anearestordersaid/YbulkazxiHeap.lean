/-
  THE PLAIN LAW of the binary heap, over ranks.
-/
import Derived.Test.YbulkazxiRank
namespace Go.Proofs.Ybulkazxi
open Go.RowKit

def upd {α : Type} (f : Nat → α) (k : Nat) (a : α) : Nat → α := fun j => if j = k then a else f j
theorem upd_same {α : Type} (f : Nat → α) (k : Nat) (a : α) : upd f k a k = a := by simp [upd]
theorem upd_ne {α : Type} (f : Nat → α) (k : Nat) (a : α) {j : Nat} (h : j ≠ k) : upd f k a j = f j := by unfold upd; rw [if_neg h]

def swp (g : Nat → Cd) (i p : Nat) : Nat → Cd := upd (upd g i (g p)) p (g i)
theorem swp_p (g : Nat → Cd) (i p : Nat) : swp g i p p = g i := upd_same _ _ _
theorem swp_i (g : Nat → Cd) {i p : Nat} (h : i ≠ p) : swp g i p i = g p := by unfold swp; rw [upd_ne _ _ _ h, upd_same]
theorem swp_ne (g : Nat → Cd) {i p j : Nat} (h1 : j ≠ i) (h2 : j ≠ p) : swp g i p j = g j := by unfold swp; rw [upd_ne _ _ _ h2, upd_ne _ _ _ h1]

/-- What holds of each holds of each behind an exchange. -/
theorem swp_all {p : Cd → Prop} {g : Nat → Cd} {n i q : Nat} (hi : i < n) (hq : q < n) (h : ∀ j, j < n → p (g j)) : ∀ j, j < n → p (swp g i q j) := by
  intro j hj
  by_cases e1 : j = q
  · rw [e1, swp_p]; exact h i hi
  · by_cases e2 : j = i
    · subst e2; rw [swp_i _ e1]; exact h q hq
    · rw [swp_ne _ e2 e1]; exact h j hj

/-! ### The order -/

def IsHeap (g : Nat → Cd) (n : Nat) : Prop := ∀ j, 0 < j → j < n → rk (g ((j - 1) / 2)) ≤ rk (g j)

/-- A heap but for what stands at i, which may be too small for its place. -/
def AlmostUp (g : Nat → Cd) (n i : Nat) : Prop :=
  (∀ j, 0 < j → j < n → j ≠ i → rk (g ((j - 1) / 2)) ≤ rk (g j)) ∧ (∀ j, 0 < j → j < n → (j - 1) / 2 = i → 0 < i → rk (g ((i - 1) / 2)) ≤ rk (g j))

/-- A heap but for what stands at i, which may be too great for its place. -/
def AlmostDown (g : Nat → Cd) (n i : Nat) : Prop :=
  (∀ j, 0 < j → j < n → (j - 1) / 2 ≠ i → rk (g ((j - 1) / 2)) ≤ rk (g j)) ∧ (∀ j, 0 < j → j < n → (j - 1) / 2 = i → 0 < i → rk (g ((i - 1) / 2)) ≤ rk (g j))

theorem IsHeap.min {g : Nat → Cd} {n : Nat} (h : IsHeap g n) : ∀ k j, j ≤ k → j < n → rk (g 0) ≤ rk (g j) := by
  intro k
  induction k with
  | zero => intro j hj _; rw [show j = 0 by omega]; exact Int.le_refl _
  | succ k ih =>
    intro j hj hn
    by_cases e : j = 0
    · rw [e]; exact Int.le_refl _
    · have h1 := h j (by omega) hn
      have h2 := ih ((j - 1) / 2) (by omega) (by omega)
      omega

theorem almostUp_push {g : Nat → Cd} {n : Nat} (h : IsHeap g n) (c : Cd) : AlmostUp (upd g n c) (n + 1) n := by
  refine ⟨fun j h0 hj hne => ?_, fun j h0 hj he hn => ?_⟩
  · rw [upd_ne _ _ _ hne, upd_ne _ _ _ (by omega)]
    exact h j h0 (by omega)
  · omega

theorem almostUp_zero {g : Nat → Cd} {n : Nat} (h : AlmostUp g n 0) : IsHeap g n := fun j h0 hj => h.1 j h0 hj (by omega)

theorem almostUp_stop {g : Nat → Cd} {n i : Nat} (h : AlmostUp g n i) (hs : ¬ rk (g i) < rk (g ((i - 1) / 2))) : IsHeap g n := by
  intro j h0 hj
  by_cases e : j = i
  · subst e; omega
  · exact h.1 j h0 hj e

theorem almostUp_step {g : Nat → Cd} {n i : Nat} (h : AlmostUp g n i) (hi : 0 < i) (hin : i < n) (hs : rk (g i) < rk (g ((i - 1) / 2))) : AlmostUp (swp g i ((i - 1) / 2)) n ((i - 1) / 2) := by
  have hp : (i - 1) / 2 < i := by omega
  refine ⟨fun j h0 hj hne => ?_, fun j h0 hj he hpp => ?_⟩
  · by_cases e1 : j = i
    · subst e1
      rw [swp_p, swp_i _ (by omega)]
      omega
    · by_cases e2 : (j - 1) / 2 = i
      · rw [e2, swp_i _ (by omega), swp_ne _ e1 hne]
        exact h.2 j h0 hj e2 hi
      · by_cases e3 : (j - 1) / 2 = (i - 1) / 2
        · rw [e3, swp_p, swp_ne _ e1 hne]
          have := h.1 j h0 hj e1
          rw [e3] at this
          omega
        · rw [swp_ne _ e2 e3, swp_ne _ e1 hne]
          exact h.1 j h0 hj e1
  · have hgp := h.1 ((i - 1) / 2) hpp (by omega) (by omega)
    rw [swp_ne g (show ((i - 1) / 2 - 1) / 2 ≠ i by omega) (by omega)]
    by_cases e1 : j = i
    · subst e1
      rw [swp_i _ (by omega)]
      exact hgp
    · rw [swp_ne _ e1 (by omega)]
      have := h.1 j h0 hj e1
      rw [he] at this
      omega

theorem almostDown_pop {g : Nat → Cd} {n : Nat} (h : IsHeap g (n + 1)) : AlmostDown (upd g 0 (g n)) n 0 := by
  refine ⟨fun j h0 hj hne => ?_, fun j h0 hj he hn => by omega⟩
  rw [upd_ne _ _ _ hne, upd_ne _ _ _ (show j ≠ 0 by omega)]
  exact h j h0 (by omega)

theorem almostDown_leaf {g : Nat → Cd} {n i : Nat} (h : AlmostDown g n i) (hl : n ≤ 2 * i + 1) : IsHeap g n := by
  intro j h0 hj
  exact h.1 j h0 hj (by omega)

theorem almostDown_stop {g : Nat → Cd} {n i m : Nat} (h : AlmostDown g n i)
    (hmin : ∀ j, j < n → (j = 2 * i + 1 ∨ j = 2 * i + 2) → rk (g m) ≤ rk (g j)) (hs : ¬ rk (g m) < rk (g i)) : IsHeap g n := by
  intro j h0 hj
  by_cases e : (j - 1) / 2 = i
  · have := hmin j hj (by omega)
    rw [e]
    omega
  · exact h.1 j h0 hj e

theorem almostDown_step {g : Nat → Cd} {n i m : Nat} (h : AlmostDown g n i) (hmn : m < n) (hm : m = 2 * i + 1 ∨ m = 2 * i + 2)
    (hmin : ∀ j, j < n → (j = 2 * i + 1 ∨ j = 2 * i + 2) → rk (g m) ≤ rk (g j)) (hs : rk (g m) < rk (g i)) : AlmostDown (swp g i m) n m := by
  refine ⟨fun j h0 hj hne => ?_, fun j h0 hj he hpp => ?_⟩
  · by_cases e1 : j = m
    · subst e1
      have e2 : (j - 1) / 2 = i := by omega
      rw [e2, swp_p, swp_i _ (by omega)]
      omega
    · by_cases e2 : (j - 1) / 2 = i
      · rw [e2, swp_i _ (by omega), swp_ne _ (by omega) e1]
        exact hmin j hj (by omega)
      · by_cases e3 : j = i
        · subst e3
          rw [swp_i _ (by omega), swp_ne _ (by omega) (by omega)]
          exact h.2 m (by omega) hmn (by omega) h0
        · rw [swp_ne _ e2 (by omega), swp_ne _ e3 e1]
          exact h.1 j h0 hj e2
  · have e2 : (m - 1) / 2 = i := by omega
    rw [e2, swp_i _ (by omega), swp_ne _ (by omega) (by omega)]
    have := h.1 j h0 hj (by omega)
    rw [he] at this
    exact this

/-! ### Which candidates there are -/

def L (g : Nat → Cd) (n : Nat) : List Cd := (List.range n).map g

theorem mem_L {g : Nat → Cd} {n : Nat} {c : Cd} : c ∈ L g n ↔ ∃ j, j < n ∧ g j = c := by
  simp [L]

theorem L_congr {g g' : Nat → Cd} {n : Nat} (h : ∀ j, j < n → g j = g' j) : L g n = L g' n := by
  unfold L
  exact List.map_congr_left fun j hj => h j (List.mem_range.1 hj)

theorem L_succ (g : Nat → Cd) (n : Nat) : L g (n + 1) = L g n ++ [g n] := by
  simp [L, List.range_succ]

theorem perm_swp (g : Nat → Cd) {n i q : Nat} (hi : i < n) (hq : q < n) : (L (swp g i q) n).Perm (L g n) := by
  have hs : (L g n).toArray.size = n := by simp [L]
  have hp := Array.swap_perm (xs := (L g n).toArray) (i := i) (j := q) (by omega) (by omega)
  have e : ((L g n).toArray.swap i q (by omega) (by omega)).toList = L (swp g i q) n := by
    apply List.ext_getElem
    · simp [L]
    · intro k h1 h2
      have hk : k < n := by simpa [L] using h2
      rw [Array.getElem_toList, Array.getElem_swap]
      simp only [L, List.getElem_toArray, List.getElem_map, List.getElem_range]
      by_cases e1 : k = q
      · subst e1
        rw [swp_p]
        by_cases e2 : k = i
        · subst e2; simp
        · simp [e2]
      · by_cases e2 : k = i
        · subst e2; rw [swp_i _ e1]; simp
        · rw [swp_ne _ e2 e1]; simp [e1, e2]
  have := hp.toList
  rw [e] at this
  simpa using this

theorem perm_push (g : Nat → Cd) (n : Nat) (c : Cd) : (L (upd g n c) (n + 1)).Perm (c :: L g n) := by
  rw [L_succ, upd_same, L_congr (g := upd g n c) (g' := g) (fun j hj => upd_ne _ _ _ (by omega))]
  exact List.perm_append_singleton _ _

theorem perm_pop (g : Nat → Cd) (n : Nat) : (g 0 :: L (upd g 0 (g n)) n).Perm (L g (n + 1)) := by
  cases n with
  | zero => simp [L]
  | succ n =>
    have e1 : L (upd g 0 (g (n + 1))) (n + 1) = g (n + 1) :: (List.range n).map (fun j => g (j + 1)) := by
      unfold L
      rw [List.range_succ_eq_map, List.map_cons, List.map_map, upd_same]
      congr 1
    have e2 : L g (n + 1 + 1) = g 0 :: ((List.range n).map (fun j => g (j + 1)) ++ [g (n + 1)]) := by
      unfold L
      rw [List.range_succ_eq_map, List.map_cons, List.map_map]
      congr 1
      rw [List.range_succ, List.map_append]
      rfl
    rw [e1, e2]
    exact List.Perm.cons _ (List.perm_append_singleton _ _).symm

end Go.Proofs.Ybulkazxi
