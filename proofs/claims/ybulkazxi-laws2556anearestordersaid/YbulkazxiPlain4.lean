/-
  LawS2556ARankedThenUnranked: the plain law. No Go in sight.
-/
import Derived.Test.YbulkazxiWalk2
namespace Go.Proofs.Ybulkazxi

theorem items_perm {es : Nat → En} {n : Nat} {rs : List Nat} (hp : rs.Perm (rankTo es n)) : (rs ++ nansTo es n).Perm (List.range n) := by
  refine (hp.append_right _).trans ?_
  refine List.perm_append_comm.trans ?_
  have := List.filter_append_perm (fun i => (es i).nan) (List.range n)
  exact this

theorem items_at {es : Nat → En} {n : Nat} {rs : List Nat} (hp : rs.Perm (rankTo es n)) (ho : rs.Pairwise fun a b => kf es a ≤ kf es b) (t : Nat) (ht : t < n) :
    ∃ a, (rs ++ nansTo es n)[t]? = some a ∧ a < n ∧ a ∉ (rs ++ nansTo es n).take t ∧
      (t < n - (nansTo es n).length → (es a).nan = false ∧ (0 < t → ∃ b, (rs ++ nansTo es n)[t - 1]? = some b ∧ (es b).nan = false ∧ b < n ∧ kf es b ≤ kf es a)) ∧
      (¬ t < n - (nansTo es n).length → (es a).nan = true ∧ (nansTo es n)[t - (n - (nansTo es n).length)]? = some a) := by
  have hP := items_perm hp
  have hl : (rs ++ nansTo es n).length = n := by rw [hP.length_eq]; simp
  have hrl : rs.length + (nansTo es n).length = n := by simpa using hl
  have hnd : (rs ++ nansTo es n).Nodup := hP.nodup_iff.2 List.nodup_range
  have hlt : t < (rs ++ nansTo es n).length := by omega
  refine ⟨(rs ++ nansTo es n)[t], List.getElem?_eq_getElem hlt, ?_, ?_, ?_, ?_⟩
  · exact List.mem_range.1 (hP.mem_iff.1 (List.getElem_mem hlt))
  · intro hm
    obtain ⟨i, hi, he⟩ := List.getElem_of_mem hm
    have hi' : i < t := by simp at hi; omega
    rw [List.getElem_take] at he
    exact List.pairwise_iff_getElem.1 hnd i t (by omega) hlt hi' he
  · intro hr
    have hr' : t < rs.length := by omega
    have mem : ∀ i, (hi : i < rs.length) → (es rs[i]).nan = false ∧ rs[i] < n := fun i hi => by
      have h1 : rs[i] ∈ rankTo es n := hp.mem_iff.1 (List.getElem_mem hi)
      simp [rankTo] at h1
      exact ⟨h1.2, h1.1⟩
    rw [List.getElem_append_left hr']
    refine ⟨(mem t hr').1, fun h0 => ⟨rs[t - 1], ?_, (mem _ (by omega)).1, (mem _ (by omega)).2, ?_⟩⟩
    · rw [List.getElem?_append_left (by omega)]
      exact List.getElem?_eq_getElem _
    · exact List.pairwise_iff_getElem.1 ho (t - 1) t (by omega) hr' (by omega)
  · intro hr
    have hr' : rs.length ≤ t := by omega
    rw [List.getElem_append_right hr']
    have hx : t - rs.length < (nansTo es n).length := by omega
    refine ⟨?_, ?_⟩
    · have h1 : (nansTo es n)[t - rs.length] ∈ nansTo es n := List.getElem_mem hx
      simp only [nansTo, List.mem_filter] at h1
      exact h1.2
    · have e : t - (n - (nansTo es n).length) = t - rs.length := by omega
      rw [e]
      exact List.getElem?_eq_getElem hx

theorem nan_key {e : En} (h : e.nan = true) : e.key = NAN := by unfold En.key; rw [if_pos h]
theorem fl_key {e : En} (h : e.nan = false) : e.key = fl e.d := by unfold En.key; rw [h, if_neg Bool.false_ne_true]
theorem nan_neq : FloatKind.f64.format.order NAN NAN = none := by
  show (Ieee.double.read NAN).order (Ieee.double.read NAN) = none
  rw [nan_read]; rfl

end Go.Proofs.Ybulkazxi
