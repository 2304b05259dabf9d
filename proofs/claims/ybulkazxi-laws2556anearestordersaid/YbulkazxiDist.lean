/-
  The ranking function (LawS2556ARankedThenUnranked$1) and the taking function ($2).
-/
import Derived.Test.YbulkazxiAcc
namespace Go.Proofs.Ybulkazxi
open Go.RowKit
attribute [local go_sem] run_store_float

theorem Yba.info3 : (Yba.prog.info? 3).map (fun i => (i.zero, i.size, i.bytes)) = some (some (.int .i64 0), 1, 8) := by kernel_rfl
theorem Yba.info66 : (Yba.prog.info? 66).map (fun i => (i.zero, i.size, i.bytes)) = some (some (.agg #[.float .f64 0, .float .f64 0, .float .f64 0, .float .f64 0, .int .i64 0, .float .f64 0]), 6, 48) := by kernel_rfl

set_option maxRecDepth 100000 in
set_option maxHeartbeats 1000000 in
theorem dist_any (base C E eb off n cap i k : Nat) (es : Nat → En) (r : R4) (v : Value) (xs : List Value) (w : World) (hi : i < n) (hn : n ≤ 1000) (hk : k ≤ 1000)
    (hA : Acc w base ⟨C, 0, none⟩ 3 1 v k xs) (hE : w.cell? ⟨E, 0, none⟩ = some (.slice (some ⟨eb, off, none⟩) n cap)) (hes : EsAt w eb off n es) (hEb : E < base) (heb : eb < base) (hEC : E ≠ C) (hebC : eb ≠ C) :
    Calls Yba.prog 12 #[.agg #[.float .f64 r.a, .float .f64 r.b, .float .f64 r.c, .float .f64 r.d], .int .i64 i, .pointer (some ⟨C, 0, none⟩), .pointer (some ⟨E, 0, none⟩)] w fun e w' =>
      e = .returned (.float .f64 (es i).key) ∧ ∃ v', Acc w' base ⟨C, 0, none⟩ 3 1 v' (k + 1) (xs ++ [.int .i64 i]) ∧ Grew w w' ⟨C, 0, none⟩ v v' := by
  obtain ⟨i0, hi0, hz0, hz1, hz2⟩ := info_parts Yba.info3
  obtain ⟨p, c, rfl⟩ := own_slice hA.own
  have hC := hA.cell
  have hfz := hA.frz
  have hCs : C < w.heap.size := Nat.lt_of_lt_of_le hA.lt hA.le
  have hEs : E < w.heap.size := Nat.lt_of_lt_of_le hEb hA.le
  have HA : Hid (Acc w base ⟨C, 0, none⟩ 3 1 (.slice p k c) k xs) := hA
  have HE : Hid (EsAt w eb off n es) := hes
  have hw1 := own_alloc (own_alloc hA.own (.cells #[.float .f64 r.a, .float .f64 r.b, .float .f64 r.c, .float .f64 r.d] 46)) (.cells #[.int .i64 i] 3)
  have hw2 := World.news_of_block (heap_alloc_new (w.alloc (.cells #[.float .f64 r.a, .float .f64 r.b, .float .f64 r.c, .float .f64 r.d] 46)) (.cells #[.int .i64 i] 3))
  rw [size_alloc] at hw2
  have hw3 : ∀ u ∈ [Value.int .i64 (i : Int)], u.oneCell' = true := by intro u hu; simp at hu; subst hu; rfl
  have hw4 : base ≤ ((w.alloc (.cells #[.float .f64 r.a, .float .f64 r.b, .float .f64 r.c, .float .f64 r.d] 46)).alloc (.cells #[.int .i64 i] 3)).heap.size := by simp only [size_alloc]; have := hA.le; omega
  have HW : Hid (_ ∧ _ ∧ _ ∧ _) := ⟨hw1, hw2, hw3, hw4⟩
  have hble := hA.le
  have hml : k + 1 ≤ maxLen := by unfold maxLen; omega
  clear hA hes hw1 hw2 hw3 hw4
  go_enter Yba.func12, Yba.ntmps12
  go_wp2_with (at_builtin; (refine wpList_append_lies _ rfl _ _ _ rfl base 3 i0 (.int .i64 0) 1 8 Yba.underlying74 hi0 hz0 hz1 hz2 rfl (by omega) (.slice p k c) k xs rfl HW.out.1 ⟨w.heap.size + 1, 0, none⟩ 1 1 [.int .i64 i] rfl rfl HW.out.2.1 HW.out.2.2.1 (by omega) hml (by omega) HW.out.2.2.2 (w.heap.size + 2) (by simp) ?_))
  intro g cap' w1 hown hgrow hat hlt
  obtain ⟨hAcc, hGrew⟩ := HA.out.put (((Chg.refl _ w).alloc _).alloc _) hown hgrow (fun g' hg' => by
    have : g = g' := by simpa [Value.ownBlock] using hg'
    subst this
    rcases hat with hh | hh
    · exact .inl hh
    · right; rw [hh]; simp)
  have c1 : Chg (fun j => (Value.slice p k c).ownBlock = some j) w w1 := Chg.step (((Chg.refl _ w).alloc _).alloc _) (Chg.of_grown hgrow) (fun j hj => .inl hj)
  have ho : ∀ j, j < base → ¬ (Value.slice p k c).ownBlock = some j := fun j hj he => absurd (own_lt HA.out.own he).1 (by omega)
  have hebs : eb < w.heap.size := HE.out.1
  have f0 : w1.cell? ⟨C, 0, none⟩ = some (.slice p k c) := (c1.cell (p := ⟨C, 0, none⟩) hCs (ho C HA.out.lt)).trans hC
  have f1 : w1.frozen? ⟨C, 0, none⟩ = false := (c1.frozen (p := ⟨C, 0, none⟩) hCs (ho C HA.out.lt)).trans hfz
  have f2 : w1.cell? ⟨E, 0, none⟩ = some (.slice (some ⟨eb, off, none⟩) n cap) := (c1.cell (p := ⟨E, 0, none⟩) hEs (ho E hEb)).trans hE
  obtain ⟨_, e0, e1, e2, e3, e4⟩ := HE.out.2 i hi
  have g0 := (c1.cell (p := ⟨eb, off + i * 5, none⟩) hebs (ho eb heb)).trans e0
  have g1 := (c1.cell (p := ⟨eb, off + i * 5 + 1, none⟩) hebs (ho eb heb)).trans e1
  have g2 := (c1.cell (p := ⟨eb, off + i * 5 + 2, none⟩) hebs (ho eb heb)).trans e2
  have g3 := (c1.cell (p := ⟨eb, off + i * 5 + 3, none⟩) hebs (ho eb heb)).trans e3
  have g4 := (c1.cell (p := ⟨eb, off + i * 5 + 4, none⟩) hebs (ho eb heb)).trans e4
  have hic : (i : Int) < (n : Int) := by omega
  have HR : Hid (Acc (w1.setCell ⟨C, 0, none⟩ (.slice (some ⟨g, 0, none⟩) (k + 1) cap')) base ⟨C, 0, none⟩ 3 1 (.slice (some ⟨g, 0, none⟩) (k + 1) cap') (k + 1) (xs ++ [.int .i64 i]) ∧ Grew w (w1.setCell ⟨C, 0, none⟩ (.slice (some ⟨g, 0, none⟩) (k + 1) cap')) ⟨C, 0, none⟩ (.slice p k c) (.slice (some ⟨g, 0, none⟩) (k + 1) cap')) := ⟨hAcc, hGrew⟩
  have HN : Hid (∀ wx, Calls Yba.prog 13 #[.agg #[.int .i8 (es i).x, .int .i8 (es i).y, .int .u8 (es i).wd, .int .u8 (es i).ht, .int .i8 (es i).d]] wx fun r w' => r = .returned (.bool (es i).nan) ∧ Below wx.heap.size wx w') := fun wx => nan_any (es i) wx
  have HK : Hid ((w1.setCell ⟨C, 0, none⟩ (.slice (some ⟨g, 0, none⟩) (k + 1) cap')).cell? ⟨E, 0, none⟩ = some (.slice (some ⟨eb, off, none⟩) n cap) ∧ (w1.setCell ⟨C, 0, none⟩ (.slice (some ⟨g, 0, none⟩) (k + 1) cap')).cell? ⟨eb, off + i * 5 + 4, none⟩ = some (.int .i8 (es i).d) ∧ E < (w1.setCell ⟨C, 0, none⟩ (.slice (some ⟨g, 0, none⟩) (k + 1) cap')).heap.size ∧ eb < (w1.setCell ⟨C, 0, none⟩ (.slice (some ⟨g, 0, none⟩) (k + 1) cap')).heap.size) :=
    ⟨(World.cell?_setCell_far _ _ _ _ (Ne.symm hEC)).trans f2, (World.cell?_setCell_far _ _ _ _ (Ne.symm hebC)).trans g4, by rw [size_set]; exact Nat.lt_of_lt_of_le hEs c1.size, by rw [size_set]; exact Nat.lt_of_lt_of_le hebs c1.size⟩
  clear hAcc hGrew hown hgrow hat hlt c1 ho e0 e1 e2 e3 e4 HW HA HE hC hfz hE hi0 hz0 hz1 hz2 i0 hml
  cases hnan : (es i).nan with
  | true =>
    have HM : Hid (∀ wx, Calls Yba.prog 14 #[] wx fun r w' => r = .returned (.float .f64 NAN) ∧ w' = wx) := mathNaN_any
    go_wp2_with (first | (go_at_call 13; refine (HN.out _).mono ?_; rintro e w2 ⟨rfl, hb2⟩; rw [hnan]) | (go_at_call 14; refine (HM.out _).mono ?_; rintro e w3 ⟨rfl, rfl⟩))
    go_ret
    exact ⟨by simp [En.key, hnan], _, HR.out.1.below hb2, HR.out.2.below hb2⟩
  | false =>
    go_wp2_with (go_at_call 13; refine (HN.out _).mono ?_; rintro e w2 ⟨rfl, hb2⟩; rw [hnan]; have z1 := (hb2.cell (p := ⟨E, 0, none⟩) HK.out.2.2.1).trans HK.out.1; have z2 := (hb2.cell (p := ⟨eb, off + i * 5 + 4, none⟩) HK.out.2.2.2).trans HK.out.2.1)
    go_ret
    exact ⟨by simp [En.key, hnan, fl], _, HR.out.1.below hb2, HR.out.2.below hb2⟩

/-- A neighbour's six cells. -/
def nb (r : R4) (it : Int) (ky : Nat) : List Value := [.float .f64 r.a, .float .f64 r.b, .float .f64 r.c, .float .f64 r.d, .int .i64 it, .float .f64 ky]

set_option maxRecDepth 100000 in
set_option maxHeartbeats 1000000 in
theorem take2_any (base G k : Nat) (r : R4) (it : Int) (ky : Nat) (v : Value) (xs : List Value) (w : World) (hk : k ≤ 1000)
    (hA : Acc w base ⟨G, 0, none⟩ 66 6 v k xs) :
    Calls Yba.prog 15 #[.agg (nb r it ky).toArray, .pointer (some ⟨G, 0, none⟩)] w fun e w' =>
      e = .returned (.bool true) ∧ ∃ v', Acc w' base ⟨G, 0, none⟩ 66 6 v' (k + 1) (xs ++ nb r it ky) ∧ Grew w w' ⟨G, 0, none⟩ v v' := by
  obtain ⟨i0, hi0, hz0, hz1, hz2⟩ := info_parts Yba.info66
  obtain ⟨p, c, rfl⟩ := own_slice hA.own
  have hC := hA.cell
  have hfz := hA.frz
  have hCs : G < w.heap.size := Nat.lt_of_lt_of_le hA.lt hA.le
  have HA : Hid (Acc w base ⟨G, 0, none⟩ 66 6 (.slice p k c) k xs) := hA
  have hw1 := own_alloc (own_alloc hA.own (.cells (nb r it ky).toArray 66)) (.cells (nb r it ky).toArray 66)
  have hw2 := World.news_of_block (heap_alloc_new (w.alloc (.cells (nb r it ky).toArray 66)) (.cells (nb r it ky).toArray 66))
  rw [size_alloc] at hw2
  have hw3 : ∀ u ∈ nb r it ky, u.oneCell' = true := by intro u hu; simp [nb] at hu; rcases hu with rfl | rfl | rfl | rfl | rfl | rfl <;> rfl
  have hw4 : base ≤ ((w.alloc (.cells (nb r it ky).toArray 66)).alloc (.cells (nb r it ky).toArray 66)).heap.size := by simp only [size_alloc]; have := hA.le; omega
  have HW : Hid (_ ∧ _ ∧ _ ∧ _) := ⟨hw1, hw2, hw3, hw4⟩
  have hml : k + 1 ≤ maxLen := by unfold maxLen; omega
  clear hA hw1 hw2 hw3 hw4
  simp only [nb, List.toArray] at HW ⊢
  go_enter Yba.func15, Yba.ntmps15
  go_wp2_with (at_builtin; refine wpList_append_lies _ rfl _ _ _ rfl base 66 i0 (.agg #[.float .f64 0, .float .f64 0, .float .f64 0, .float .f64 0, .int .i64 0, .float .f64 0]) 6 48 Yba.underlying63 hi0 hz0 hz1 hz2 rfl (by omega) (.slice p k c) k xs rfl HW.out.1 ⟨w.heap.size + 1, 0, none⟩ 1 1 (nb r it ky) rfl rfl HW.out.2.1 HW.out.2.2.1 (by omega) hml (by omega) HW.out.2.2.2 (w.heap.size + 2) (by simp) ?_)
  intro g cap' w1 hown hgrow hat hlt
  obtain ⟨hAcc, hGrew⟩ := HA.out.put (((Chg.refl _ w).alloc _).alloc _) hown hgrow (fun g' hg' => by
    have : g = g' := by simpa [Value.ownBlock] using hg'
    subst this
    rcases hat with hh | hh
    · exact .inl hh
    · right; rw [hh]; simp)
  have c1 : Chg (fun j => (Value.slice p k c).ownBlock = some j) w w1 := Chg.step (((Chg.refl _ w).alloc _).alloc _) (Chg.of_grown hgrow) (fun j hj => .inl hj)
  have ho : ∀ j, j < base → ¬ (Value.slice p k c).ownBlock = some j := fun j hj he => absurd (own_lt HA.out.own he).1 (by omega)
  have f0 : w1.cell? ⟨G, 0, none⟩ = some (.slice p k c) := (c1.cell (p := ⟨G, 0, none⟩) hCs (ho G HA.out.lt)).trans hC
  have f1 : w1.frozen? ⟨G, 0, none⟩ = false := (c1.frozen (p := ⟨G, 0, none⟩) hCs (ho G HA.out.lt)).trans hfz
  go_wp2
  go_ret
  exact ⟨rfl, _, hAcc, hGrew⟩


set_option maxRecDepth 100000 in
set_option maxHeartbeats 1000000 in
theorem take1_any (base G k : Nat) (r : R4) (it : Int) (ky : Nat) (v : Value) (xs : List Value) (w : World) (hk : k ≤ 1000)
    (hA : Acc w base ⟨G, 0, none⟩ 66 6 v k xs) (T stop : Nat) (hS : w.cell? ⟨T, 0, none⟩ = some (.int .i64 stop)) (hT : T < base) (hTG : T ≠ G) :
    Calls Yba.prog 9 #[.agg (nb r it ky).toArray, .pointer (some ⟨G, 0, none⟩), .pointer (some ⟨T, 0, none⟩)] w fun e w' =>
      e = .returned (.bool (decide (k + 1 ≠ stop))) ∧ ∃ v', Acc w' base ⟨G, 0, none⟩ 66 6 v' (k + 1) (xs ++ nb r it ky) ∧ Grew w w' ⟨G, 0, none⟩ v v' := by
  obtain ⟨i0, hi0, hz0, hz1, hz2⟩ := info_parts Yba.info66
  obtain ⟨p, c, rfl⟩ := own_slice hA.own
  have hC := hA.cell
  have hfz := hA.frz
  have hCs : G < w.heap.size := Nat.lt_of_lt_of_le hA.lt hA.le
  have HA : Hid (Acc w base ⟨G, 0, none⟩ 66 6 (.slice p k c) k xs) := hA
  have hw1 := own_alloc (own_alloc hA.own (.cells (nb r it ky).toArray 66)) (.cells (nb r it ky).toArray 66)
  have hw2 := World.news_of_block (heap_alloc_new (w.alloc (.cells (nb r it ky).toArray 66)) (.cells (nb r it ky).toArray 66))
  rw [size_alloc] at hw2
  have hw3 : ∀ u ∈ nb r it ky, u.oneCell' = true := by intro u hu; simp [nb] at hu; rcases hu with rfl | rfl | rfl | rfl | rfl | rfl <;> rfl
  have hw4 : base ≤ ((w.alloc (.cells (nb r it ky).toArray 66)).alloc (.cells (nb r it ky).toArray 66)).heap.size := by simp only [size_alloc]; have := hA.le; omega
  have HW : Hid (_ ∧ _ ∧ _ ∧ _) := ⟨hw1, hw2, hw3, hw4⟩
  have hTs : T < w.heap.size := Nat.lt_of_lt_of_le hT hA.le
  have hml : k + 1 ≤ maxLen := by unfold maxLen; omega
  clear hA hw1 hw2 hw3 hw4
  simp only [nb, List.toArray] at HW ⊢
  go_enter Yba.func9, Yba.ntmps9
  go_wp2_with (at_builtin; refine wpList_append_lies _ rfl _ _ _ rfl base 66 i0 (.agg #[.float .f64 0, .float .f64 0, .float .f64 0, .float .f64 0, .int .i64 0, .float .f64 0]) 6 48 Yba.underlying63 hi0 hz0 hz1 hz2 rfl (by omega) (.slice p k c) k xs rfl HW.out.1 ⟨w.heap.size + 1, 0, none⟩ 1 1 (nb r it ky) rfl rfl HW.out.2.1 HW.out.2.2.1 (by omega) hml (by omega) HW.out.2.2.2 (w.heap.size + 2) (by simp) ?_)
  intro g cap' w1 hown hgrow hat hlt
  obtain ⟨hAcc, hGrew⟩ := HA.out.put (((Chg.refl _ w).alloc _).alloc _) hown hgrow (fun g' hg' => by
    have : g = g' := by simpa [Value.ownBlock] using hg'
    subst this
    rcases hat with hh | hh
    · exact .inl hh
    · right; rw [hh]; simp)
  have c1 : Chg (fun j => (Value.slice p k c).ownBlock = some j) w w1 := Chg.step (((Chg.refl _ w).alloc _).alloc _) (Chg.of_grown hgrow) (fun j hj => .inl hj)
  have ho : ∀ j, j < base → ¬ (Value.slice p k c).ownBlock = some j := fun j hj he => absurd (own_lt HA.out.own he).1 (by omega)
  have f0 : w1.cell? ⟨G, 0, none⟩ = some (.slice p k c) := (c1.cell (p := ⟨G, 0, none⟩) hCs (ho G HA.out.lt)).trans hC
  have f1 : w1.frozen? ⟨G, 0, none⟩ = false := (c1.frozen (p := ⟨G, 0, none⟩) hCs (ho G HA.out.lt)).trans hfz
  have f2 : w1.cell? ⟨T, 0, none⟩ = some (.int .i64 stop) := (c1.cell (p := ⟨T, 0, none⟩) hTs (ho T hT)).trans hS
  go_wp2
  go_ret
  refine ⟨ret_bool ?_, _, hAcc, hGrew⟩
  rw [Bool.eq_iff_iff]
  simp
  omega

end Go.Proofs.Ybulkazxi
