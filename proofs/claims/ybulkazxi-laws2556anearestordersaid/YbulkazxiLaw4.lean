/-
  LawS2556ARankedThenUnranked: her own walk.
-/
import Derived.Test.YbulkazxiEq
import Derived.Test.YbulkazxiPlain4
import Derived.BigQuiet
namespace Go.Proofs.Ybulkazxi
open Go.RowKit
attribute [local go_sem] run_store_float func_eq_nil nil_eq_nil
attribute [local go_sem ↓] Go.wp_at_zero Go.wp_at_succ

/-- What stands behind the walk. -/
structure Mid (w0 w : World) (B0 E C G base n eb off cap : Nat) (es : Nat → En) (rs : List Nat) (cv gv : Value) : Prop where
  low : Below B0 w0 w
  ev : w.cell? ⟨E, 0, none⟩ = some (.slice (some ⟨eb, off, none⟩) n cap)
  esat : EsAt w eb off n es
  c : Acc w base ⟨C, 0, none⟩ 3 1 cv n (callsL n)
  g : Acc w base ⟨G, 0, none⟩ 66 6 gv n (nbs es (rs ++ nansTo es n))
  perm : rs.Perm (rankTo es n)
  ord : rs.Pairwise fun a b => kf es a ≤ kf es b
  elt : E < w.heap.size
  b0 : B0 ≤ w.heap.size

/-- The walk, called in the world in which the two slices were made. -/
theorem walk4 (w w2 : World) (E N eb off n c : Nat) (es : Nat → En) (h cnt : Int) (hb : Below w.heap.size w w2) (hev : w2.cell? ⟨E, 0, none⟩ = some (.slice (some ⟨eb, off, none⟩) n c)) (hes : EsAt w2 eb off n es) (hN : NodeAt w2 N (leafN es 0 n n)) (hE : E < w2.heap.size) (hn : n ≤ 40) :
    Calls Yba.prog 8 #[.agg #[.int .u64 0, .pointer (some ⟨N, 0, none⟩), .int .i64 h, .int .i64 cnt, .pointer none], .agg #[.float .f64 0, .float .f64 0], .func (.func 12) #[] #[.pointer (some ⟨w2.heap.size, 0, none⟩), .pointer (some ⟨E, 0, none⟩)], .func (.func 15) #[] #[.pointer (some ⟨w2.heap.size + 1, 0, none⟩)]]
      ((w2.alloc (.cells #[.slice none 0 0] 74)).alloc (.cells #[.slice none 0 0] 63)) fun e w' => e = .returned (.tuple #[]) ∧
      ∃ rs cv gv base, Mid w w' w.heap.size E w2.heap.size (w2.heap.size + 1) base n eb off c es rs cv gv := by
  have hs := hb.size
  have hNl := hN.lt
  have hel := hes.1
  obtain ⟨w3, hw3⟩ : ∃ w3, w3 = ((w2.alloc (.cells #[.slice none 0 0] 74)).alloc (.cells #[.slice none 0 0] 63)) := ⟨_, rfl⟩
  have hs3 : w3.heap.size = w2.heap.size + 1 + 1 := by rw [hw3]; simp
  have hc : Chg (fun _ => False) w2 w3 := by rw [hw3]; exact ((Chg.refl _ w2).alloc _).alloc _
  have hC : w3.heap[w2.heap.size]? = some (.cells #[.slice none 0 0] 74) := by
    rw [hw3]; exact (Below.heap_alloc _ _ _ (by simp)).trans (heap_alloc_new w2 _)
  have hG : w3.heap[w2.heap.size + 1]? = some (.cells #[.slice none 0 0] 63) := by
    rw [hw3]
    have := heap_alloc_new (w2.alloc (.cells #[.slice none 0 0] 74)) (.cells #[.slice none 0 0] 63)
    simpa using this
  rw [← hw3]
  have hP : Pre2 ⟨E, eb, off, c, n, es, N, w2.heap.size, w2.heap.size + 1, w3.heap.size + 1 + 1, w3.heap.size + 1 + 1 + 1, w3.heap.size + 1 + 1 + 1 + 1, w.heap.size⟩ w w3 :=
    ⟨Below.chg hb hc (fun _ f => f.elim) hs, hes.chg hc id, (hc.cell (p := ⟨E, 0, none⟩) hE id).trans hev, hN.chg hc id, ⟨cell_block hC, frozen_block hC⟩, ⟨cell_block hG, frozen_block hG⟩, hn,
      ⟨by simp only; omega, by simp only; omega, by simp only; omega, by simp only; omega, by simp only; omega⟩, ⟨by simp only; omega, by simp only; omega, by simp only; omega⟩, ⟨by simp only; omega, by simp only; omega, by simp only; omega⟩, (by simp only; omega), ⟨by simp only; omega, by simp only; omega, by simp only; omega⟩, rfl, rfl, rfl⟩
  refine (walk2_any _ h cnt w w3 hP).mono ?_
  rintro e w' ⟨rfl, rs, cv, uv, gv, g, hS, hp, ho⟩
  have hle := hS.f.le
  refine ⟨rfl, rs, cv, gv, _, hS.f.low, hS.f.ev, hS.f.es, hS.a.c, hS.a.g, hp, ho, ?_, ?_⟩
  · simp only at hle; omega
  · simp only at hle; omega

theorem Yba.info4 : (Yba.prog.info? 4).map (fun i => (i.zero, i.size, i.bytes)) = some (some (.bool false), 1, 1) := by kernel_rfl
theorem make4 (n : Nat) (hn : n ≤ 1000) (wx : World) : (Instr.makeSlice 68 (.int .i64 n) (.int .i64 n)).run Yba.prog wx = .ok (.slice (some ⟨wx.heap.size, 0, none⟩) n n) (wx.alloc (.cells (madeCells #[.bool false] n) 4)) := by
  obtain ⟨i, hi, hz, hs, hb⟩ := info_parts Yba.info4
  have h := run_make (P := Yba.prog) wx 68 4 i (.bool false) Yba.underlying68 hi hz .i64 .i64 n n (by omega) (Int.le_refl _) (by rw [hb]; omega) (by omega)
  rw [h, hs]
  simp [Value.cells]
theorem made_at (j n : Nat) (h : j < n) : (madeCells #[.bool false] n)[j]? = some (.bool false) := by
  rw [← Array.getElem?_toList, toList_madeCells_one, List.getElem?_replicate, if_pos h]

theorem rect_neq' {e : En} (h : e.ok) (wx : World) : (binOp .neq 46 (.agg #[.float .f64 e.rect.a, .float .f64 e.rect.b, .float .f64 e.rect.c, .float .f64 e.rect.d]) (.agg #[.float .f64 e.rect.a, .float .f64 e.rect.b, .float .f64 e.rect.c, .float .f64 e.rect.d])).run Yba.prog wx = .ok (.bool false) wx := by
  obtain ⟨h1, h2, h3, h4, _⟩ := h
  exact rect_neq _ _ _ _ (fin_fl _ (by omega)) (fin_fl _ (by omega)) (fin_fl _ (by omega)) (fin_fl _ (by omega)) wx

theorem order_self {x : Nat} (h : fin x = true) : FloatKind.f64.format.order x x = some .eq := by
  rw [order_fin h h, Int.compare_eq_eq.2 rfl]

set_option maxRecDepth 100000 in
set_option maxHeartbeats 2000000 in
theorem law4_some (eb off n c : Nat) (es : Nat → En) (w : World) (hn : n ≤ 40) (h0 : 0 < n) (hes : EsAt w eb off n es) :
    Calls Yba.prog 4 #[.slice (some ⟨eb, off, none⟩) n c] w fun e w' => e = .returned (.bool true) ∧ Below w.heap.size w w' := by
  have hn' : ¬ (40 : Int) < (n : Int) := by omega
  have h0' : (0 : Int) < (n : Int) := by omega
  have HE : Hid (EsAt w eb off n es) := hes
  have HLf : Hid (∀ wx, EsAt wx eb off n es → Calls Yba.prog 6 #[.slice (some ⟨eb, off, none⟩) n c, .int .i64 0, .int .i64 n] wx fun r w' => r = .returned (.pointer (some ⟨wx.heap.size, 0, none⟩)) ∧ NodeAt w' wx.heap.size (leafN es 0 n n) ∧ Below wx.heap.size wx w') := fun wx h => leaf_any eb off n c 0 n es wx h (Nat.zero_le _) (Nat.le_refl _) (by omega) (by omega)
  clear hes
  go_enter Yba.func4, Yba.ntmps4
  go_upto_region 8 with (
    go_at_call 6
    refine (HLf.out _ (EsAt.chg HE.out (((Chg.refl (fun _ => False) w).alloc _).alloc _) id)).mono ?_
    rintro e w1 ⟨rfl, hN, hb⟩
    have hS : w1.heap[w.heap.size + 1]? = some (.cells #[.int .u64 0, .pointer none, .int .i64 0, .int .i64 0, .pointer none] 28) := (hb.block _ (by simp)).trans (by
      have := heap_alloc_new (w.alloc (.cells #[.slice (some ⟨eb, off, none⟩) n c] 22)) (.cells #[.int .u64 0, .pointer none, .int .i64 0, .int .i64 0, .pointer none] 28)
      simpa using this)
    have hE0 : w1.heap[w.heap.size]? = some (.cells #[.slice (some ⟨eb, off, none⟩) n c] 22) := (hb.block _ (by simp; omega)).trans ((Below.heap_alloc _ _ _ (by simp)).trans (heap_alloc_new w _))
    have s1 : w1.cell? ⟨w.heap.size + 1, 1, none⟩ = some (.pointer none) := cell_block hS
    have s3 : w1.cell? ⟨w.heap.size + 1, 3, none⟩ = some (.int .i64 0) := cell_block hS
    have sf : ∀ o, w1.frozen? ⟨w.heap.size + 1, o, none⟩ = false := fun o => frozen_block hS)
  obtain ⟨w2, hw2⟩ : ∃ w2, w2 = (w1.setCell ⟨w.heap.size + 1, 1, none⟩ (.pointer (some ⟨w.heap.size + 1 + 1, 0, none⟩))).setCell ⟨w.heap.size + 1, 3, none⟩ (.int .i64 n) := ⟨_, rfl⟩
  rw [← hw2]
  have hc : Chg (fun j => j = w.heap.size + 1) w1 w2 := by rw [hw2]; exact ((Chg.refl (fun j => j = w.heap.size + 1) w1).setCell (p := ⟨w.heap.size + 1, 1, none⟩) (.inl rfl) _).setCell (p := ⟨w.heap.size + 1, 3, none⟩) (.inl rfl) _
  have hE1 : w.heap.size < w1.heap.size := (Array.getElem?_eq_some_iff.1 hE0).1
  have hE2 : w.heap.size < w2.heap.size := Nat.lt_of_lt_of_le hE1 hc.size
  have hev : w2.cell? ⟨w.heap.size, 0, none⟩ = some (.slice (some ⟨eb, off, none⟩) n c) := (hc.cell (p := ⟨w.heap.size, 0, none⟩) hE1 (by simp)).trans (cell_block hE0)
  have hN2 : NodeAt w2 (w.heap.size + 1 + 1) (leafN es 0 n n) := by
    rw [size_alloc, size_alloc] at hN
    exact hN.chg hc (by simp)
  have hebw := HE.out.1
  have hb1 : Below w.heap.size w w1 := (((Below.refl _ w).alloc (Nat.le_refl _) _).alloc (by simp) _).trans (hb.mono (by simp; omega))
  have hes2 : EsAt w2 eb off n es := (HE.out.below hebw hb1).chg hc (by omega)
  have hb2 : Below w.heap.size w w2 := Below.chg hb1 hc (by intro j hj; omega) (Nat.le_of_lt hE1)
  have k0 : w2.cell? ⟨w.heap.size + 1, 0, none⟩ = some (.int .u64 0) := by
    rw [hw2, World.cell?_setCell_other _ _ _ _ (by simp), World.cell?_setCell_other _ _ _ _ (by simp)]; exact cell_block hS
  have k1 : w2.cell? ⟨w.heap.size + 1, 1, none⟩ = some (.pointer (some ⟨w.heap.size + 1 + 1, 0, none⟩)) := by
    rw [hw2, World.cell?_setCell_other _ _ _ _ (by simp)]; exact World.cell?_setCell_same' _ _ _ (by rw [s1]; rfl)
  have k2 : w2.cell? ⟨w.heap.size + 1, 2, none⟩ = some (.int .i64 0) := by
    rw [hw2, World.cell?_setCell_other _ _ _ _ (by simp), World.cell?_setCell_other _ _ _ _ (by simp)]; exact cell_block hS
  have k3 : w2.cell? ⟨w.heap.size + 1, 3, none⟩ = some (.int .i64 n) := by
    rw [hw2]; exact World.cell?_setCell_same' _ _ _ (by rw [World.cell?_setCell_other _ _ _ _ (by simp), s3]; rfl)
  have k4 : w2.cell? ⟨w.heap.size + 1, 4, none⟩ = some (.pointer none) := by
    rw [hw2, World.cell?_setCell_other _ _ _ _ (by simp), World.cell?_setCell_other _ _ _ _ (by simp)]; exact cell_block hS
  have HWk : Hid (Calls Yba.prog 8 #[.agg #[.int .u64 0, .pointer (some ⟨w.heap.size + 1 + 1, 0, none⟩), .int .i64 0, .int .i64 n, .pointer none], .agg #[.float .f64 0, .float .f64 0], .func (.func 12) #[] #[.pointer (some ⟨w2.heap.size, 0, none⟩), .pointer (some ⟨w.heap.size, 0, none⟩)], .func (.func 15) #[] #[.pointer (some ⟨w2.heap.size + 1, 0, none⟩)]]
      ((w2.alloc (.cells #[.slice none 0 0] 74)).alloc (.cells #[.slice none 0 0] 63)) fun e w' => e = .returned (.tuple #[]) ∧
      ∃ rs cv gv base, Mid w w' w.heap.size w.heap.size w2.heap.size (w2.heap.size + 1) base n eb off c es rs cv gv) := walk4 w w2 w.heap.size (w.heap.size + 1 + 1) eb off n c es 0 n hb2 hev hes2 hN2 hE2 hn
  have hSl : w.heap.size + 1 < w2.heap.size := Nat.lt_of_lt_of_le (Array.getElem?_eq_some_iff.1 hS).1 hc.size
  have hcx : Chg (fun _ => False) w2 ((w2.alloc (.cells #[.slice none 0 0] 74)).alloc (.cells #[.slice none 0 0] 63)) := ((Chg.refl _ w2).alloc _).alloc _
  replace k0 := (hcx.cell (p := ⟨w.heap.size + 1, 0, none⟩) hSl id).trans k0
  replace k1 := (hcx.cell (p := ⟨w.heap.size + 1, 1, none⟩) hSl id).trans k1
  replace k2 := (hcx.cell (p := ⟨w.heap.size + 1, 2, none⟩) hSl id).trans k2
  replace k3 := (hcx.cell (p := ⟨w.heap.size + 1, 3, none⟩) hSl id).trans k3
  replace k4 := (hcx.cell (p := ⟨w.heap.size + 1, 4, none⟩) hSl id).trans k4
  clear hcx hSl hc hN hb hS hE0 s1 s3 sf hE1 hE2 hev hN2 hebw hb1 hes2 hb2 hw2 HLf
  go_upto_region 12 with (
    go_at_call 8
    refine HWk.out.mono ?_
    rintro e w3 ⟨rfl, rs, cv, gv, base, hM⟩)
  obtain ⟨pc, cc, rfl⟩ := own_slice hM.c.own
  obtain ⟨pg, cg, rfl⟩ := own_slice hM.g.own
  obtain ⟨gc, _, hpe, _, _⟩ := hM.c.own.form h0
  cases hpe
  obtain ⟨gg, _, hpe, _, _⟩ := hM.g.own.form h0
  cases hpe
  obtain ⟨C, hC⟩ : ∃ C, w2.heap.size = C := ⟨_, rfl⟩
  rw [hC] at hM ⊢
  have hcc := hM.c.cell
  have hgc := hM.g.cell
  have hCl : C < w3.heap.size := Nat.lt_of_lt_of_le hM.c.lt hM.c.le
  have hGl : C + 1 < w3.heap.size := Nat.lt_of_lt_of_le hM.g.lt hM.g.le
  have HM : Hid (Mid w w3 w.heap.size w.heap.size C (C + 1) base n eb off c es rs (.slice (some ⟨gc, 0, none⟩) n cc) (.slice (some ⟨gg, 0, none⟩) n cg)) := hM
  clear hM k0 k1 k2 k3 k4 HWk hC w1 w2
  go_wp2_with fail
  go_loopw [47] (fun i wr => ∃ t : Nat, t ≤ n ∧ i = .int .i64 t ∧ wr = w3) (fun i _ => n - (intOf i).toNat)
  case atStart => exact ⟨0, Nat.zero_le _, rfl, rfl⟩
  case round =>
    obtain ⟨t, ht, rfl, rfl⟩ := hrel
    by_cases hlt : t < n
    · have hlc : (t : Int) < (n : Int) := by omega
      have hcl : wr.cell? ⟨gc, t, none⟩ = some (.int .i64 t) := by
        have := HM.out.c.own.cellAt t (by omega)
        rw [this]
        simp [callsL, hlt]
      go_wp2_with fail
      refine ⟨⟨t + 1, by omega, by simp, trivial⟩, by simp [intOf]; omega⟩
    · obtain rfl : n = t := by omega
      obtain ⟨w3, rfl⟩ : ∃ w3, w3 = wr := ⟨_, rfl⟩
      clear hlt ht
      have hle : ∀ t, (nansTo es t).length ≤ t := fun t => Nat.le_trans (List.length_filter_le _ _) (by simp)
      obtain ⟨i0, hi0, hz0, hz1, hz2⟩ := info_parts Yba.info3
      have HI : Hid (_ ∧ _ ∧ _ ∧ _) := ⟨hi0, hz0, hz1, hz2⟩
      clear hi0 hz0 hz1 hz2
      go_wp2_with fail
      go_loopw [10, 11] (fun nv i wr => ∃ t : Nat, t ≤ n ∧ i = .int .i64 t ∧ Chg (fun _ => False) w3 wr ∧ wr.ownsRow w3.heap.size 3 1 nv (nansTo es t).length ((nansTo es t).map fun i => .int .i64 (i : Nat))) (fun _ i _ => n - (intOf i).toNat)
      case atStart => exact ⟨0, Nat.zero_le _, rfl, Chg.refl _ _, ⟨by simp [nansTo], .inl ⟨rfl, rfl⟩⟩⟩
      case round =>
        obtain ⟨t, ht, rfl, hc, hown⟩ := hrel
        obtain ⟨pn, cn, rfl⟩ := own_slice hown
        obtain ⟨un, hun⟩ : ∃ un, un = (nansTo es t).length := ⟨_, rfl⟩
        have HUN : Hid (un = (nansTo es t).length) := hun
        rw [← hun] at hown ⊢
        have hul : un ≤ 1000 := by rw [hun]; have := hle t; omega
        have HC : Hid (Chg (fun _ => False) w3 wr ∧ wr.ownsRow w3.heap.size 3 1 (.slice pn un cn) un ((nansTo es t).map fun i => .int .i64 (i : Nat))) := ⟨hc, hown⟩
        have ev := (hc.cell (p := ⟨w.heap.size, 0, none⟩) HM.out.elt id).trans HM.out.ev
        clear hown hun
        by_cases hlt : t < n
        · have hlc : (t : Int) < (n : Int) := by omega
          obtain ⟨_, e0, e1, e2, e3, e4⟩ := (HM.out.esat.chg hc id).2 t hlt
          have HN : Hid (∀ wx, Calls Yba.prog 13 #[.agg #[.int .i8 (es t).x, .int .i8 (es t).y, .int .u8 (es t).wd, .int .u8 (es t).ht, .int .i8 (es t).d]] wx fun r w' => r = .returned (.bool (es t).nan) ∧ Below wx.heap.size wx w') := fun wx => nan_any (es t) wx
          clear hc
          cases hnan : (es t).nan with
          | true =>
            go_upto_region 25 with (
              go_at_call 13
              refine (HN.out _).mono ?_
              rintro e w4 ⟨rfl, hb4⟩
              rw [hnan])
            have hc4 : Chg (fun _ => False) wr w4 := Chg.of_below hb4 _
            have hw1 := own_alloc (own_chg HC.out.2 hc4 (fun _ _ f => f)) (.cells #[.int .i64 t] 3)
            have hw2 := World.news_of_block (heap_alloc_new w4 (.cells #[.int .i64 t] 3))
            have hw3 : ∀ u ∈ [Value.int .i64 (t : Int)], u.oneCell' = true := by intro u hu; simp at hu; subst hu; rfl
            have hw4 : w3.heap.size ≤ (w4.alloc (.cells #[.int .i64 t] 3)).heap.size := by rw [size_alloc]; exact Nat.le_succ_of_le (Nat.le_trans HC.out.1.size hc4.size)
            have HW : Hid (_ ∧ _ ∧ _ ∧ _) := ⟨hw1, hw2, hw3, hw4⟩
            have HB4 : Hid (Chg (fun _ => False) wr w4) := hc4
            have hml : un + 1 ≤ maxLen := by unfold maxLen; omega
            clear hb4 hc4 hw1 hw2 hw3 hw4 e0 e1 e2 e3 e4 ev
            go_wp2_with (at_builtin; refine wpList_append_lies _ rfl _ _ _ rfl w3.heap.size 3 i0 (.int .i64 0) 1 8 Yba.underlying74 HI.out.1 HI.out.2.1 HI.out.2.2.1 HI.out.2.2.2 rfl (by omega) (.slice pn un cn) un ((nansTo es t).map fun i => .int .i64 (i : Nat)) rfl HW.out.1 ⟨w4.heap.size, 0, none⟩ 1 1 [.int .i64 t] rfl rfl HW.out.2.1 HW.out.2.2.1 (by omega) hml (by omega) HW.out.2.2.2 (w4.heap.size + 1) (by simp) ?_)
            intro g cap' w5 hown5 hgrow hat hlt5
            go_wp2_with fail
            refine ⟨⟨t + 1, by omega, by simp, ?_, ?_⟩, by simp [intOf]; omega⟩
            · exact ((HC.out.1.trans HB4.out).alloc _).step (Chg.of_grown hgrow) (fun j hj => .inr (own_lt HC.out.2 hj).1)
            · have e1 : nansTo es (t + 1) = nansTo es t ++ [t] := by rw [nansTo_succ, hnan, if_pos rfl]
              rw [e1, List.length_append, List.map_append, ← HUN.out]
              exact hown5
          | false =>
            go_wp2_with (
              go_at_call 13
              refine (HN.out _).mono ?_
              rintro e w4 ⟨rfl, hb4⟩
              rw [hnan])
            refine ⟨⟨t + 1, by omega, by simp, HC.out.1.trans (Chg.of_below hb4 _), ?_⟩, by simp [intOf]; omega⟩
            have e1 : nansTo es (t + 1) = nansTo es t := by rw [nansTo_succ, hnan, if_neg Bool.false_ne_true, List.append_nil]
            rw [e1, ← HUN.out]
            exact own_chg HC.out.2 (Chg.of_below hb4 (fun _ => False)) (fun _ _ f => f)
        · obtain rfl : n = t := by omega
          clear hc hlt ht
          obtain ⟨we, rfl⟩ : ∃ we, we = wr := ⟨_, rfl⟩
          have hmk : ∀ wx : World, (Instr.makeSlice 68 (.int .i64 n) (.int .i64 n)).run Yba.prog wx = .ok (.slice (some ⟨wx.heap.size, 0, none⟩) n n) (wx.alloc (.cells (madeCells #[.bool false] n) 4)) := fun wx => make4 n (by omega) wx
          have HQ : Hid (Chg (fun _ => False) w3 (we.alloc (.cells (madeCells #[.bool false] n) 4))) := HC.out.1.alloc _
          have hgc2 := (HQ.out.cell (p := ⟨C + 1, 0, none⟩) hGl id).trans hgc
          have hSB : we.heap.size ≠ C + 1 := Nat.ne_of_gt (Nat.lt_of_lt_of_le hGl HC.out.1.size)
          have hSE : we.heap.size ≠ w.heap.size := Nat.ne_of_gt (Nat.lt_of_lt_of_le HM.out.elt HC.out.1.size)
          clear ev
          go_wp2_with fail
          clear hmk hgc2
          go_loopw [78] (fun i wr => ∃ t : Nat, t ≤ n ∧ i = .int .i64 t ∧ Chg (fun j => j = we.heap.size) (we.alloc (.cells (madeCells #[.bool false] n) 4)) wr ∧ ∀ j, j < n → wr.cell? ⟨we.heap.size, j, none⟩ = some (.bool (decide (j ∈ (rs ++ nansTo es n).take t))) ∧ wr.frozen? ⟨we.heap.size, j, none⟩ = false) (fun i _ => n - (intOf i).toNat)
          case atStart =>
            refine ⟨0, Nat.zero_le _, rfl, Chg.refl _ _, fun j hj => ⟨?_, frozen_block (heap_alloc_new we _)⟩⟩
            rw [cell_block (heap_alloc_new we _), made_at j n hj]; simp
          case round =>
            obtain ⟨t, ht, rfl, hc, hseen⟩ := hrel
            by_cases hlt : t < n
            · obtain ⟨a, ha, han, hat, hr1, hr2⟩ := items_at HM.out.perm HM.out.ord t hlt
              have hcw : Chg (fun _ => False) w3 wr := HQ.out.step hc (fun j hj => .inr (by rw [hj]; exact HC.out.1.size))
              have hlc : (t : Int) < (n : Int) := by omega
              have hac : (a : Int) < (n : Int) := by omega
              have ha0 : ¬ (a : Int) < 0 := by omega
              have han' : ¬ (n : Int) ≤ (a : Int) := by omega
              have hzc : ∀ j, j < 6 → wr.cell? ⟨gg, t * 6 + j, none⟩ = (nb (es a).rect (a : Nat) (es a).key)[j]? := fun j hj => by
                rw [← nbs_get es _ t j hj a ha]
                exact (own_chg HM.out.g.own hcw (fun _ _ f => f)).cellAt _ (by omega)
              have z0 := hzc 0 (by omega)
              have z1 := hzc 1 (by omega)
              have z2 := hzc 2 (by omega)
              have z3 := hzc 3 (by omega)
              have z4 := hzc 4 (by omega)
              have z5 := hzc 5 (by omega)
              simp only [nb, Nat.add_zero, List.getElem?_cons_zero, List.getElem?_cons_succ] at z0 z1 z2 z3 z4 z5
              have hsl : we.heap.size < wr.heap.size := Nat.lt_of_lt_of_le (by simp) hc.size
              have hsa : wr.cell? ⟨we.heap.size, a, none⟩ = some (.bool false) := by rw [(hseen a han).1, decide_eq_false hat]
              have hsf := (hseen a han).2
              obtain ⟨OB, hOB⟩ : ∃ OB : Obj, OB = .cells #[.float .f64 (es a).rect.a, .float .f64 (es a).rect.b, .float .f64 (es a).rect.c, .float .f64 (es a).rect.d, .int .i64 a, .float .f64 (es a).key] 66 := ⟨_, rfl⟩
              have hsa2 : (wr.alloc (.cells #[.float .f64 (es a).rect.a, .float .f64 (es a).rect.b, .float .f64 (es a).rect.c, .float .f64 (es a).rect.d, .int .i64 a, .float .f64 (es a).key] 66)).cell? ⟨we.heap.size, a, none⟩ = some (.bool false) := (((Chg.refl (fun _ => False) wr).alloc _).cell (p := ⟨we.heap.size, a, none⟩) hsl id).trans hsa
              have hsf2 : (wr.alloc (.cells #[.float .f64 (es a).rect.a, .float .f64 (es a).rect.b, .float .f64 (es a).rect.c, .float .f64 (es a).rect.d, .int .i64 a, .float .f64 (es a).key] 66)).frozen? ⟨we.heap.size, a, none⟩ = false := (((Chg.refl (fun _ => False) wr).alloc _).frozen (p := ⟨we.heap.size, a, none⟩) hsl id).trans hsf
              have HZ : Hid ((∀ j, j < n → wr.cell? ⟨we.heap.size, j, none⟩ = some (.bool (decide (j ∈ (rs ++ nansTo es n).take t))) ∧ wr.frozen? ⟨we.heap.size, j, none⟩ = false) ∧ Chg (fun j => j = we.heap.size) (we.alloc (.cells (madeCells #[.bool false] n) 4)) wr ∧ Chg (fun _ => False) w3 wr) := ⟨hseen, hc, hcw⟩
              clear hseen hc hcw hzc
              go_upto_region 34 with fail
              obtain ⟨w5, hw5⟩ : ∃ w5, w5 = (wr.setCell ⟨we.heap.size, a, none⟩ (.bool true)).alloc (.cells #[.float .f64 (es a).rect.a, .float .f64 (es a).rect.b, .float .f64 (es a).rect.c, .float .f64 (es a).rect.d, .int .i64 a, .float .f64 (es a).key] 66) := ⟨_, rfl⟩
              rw [← hw5]
              have hc5 : Chg (fun j => j = we.heap.size) wr w5 := by rw [hw5]; exact ((Chg.refl (fun j => j = we.heap.size) wr).setCell (p := ⟨we.heap.size, a, none⟩) (.inl rfl) _).alloc _
              have hB5 : w5.heap[wr.heap.size]? = some (.cells #[.float .f64 (es a).rect.a, .float .f64 (es a).rect.b, .float .f64 (es a).rect.c, .float .f64 (es a).rect.d, .int .i64 a, .float .f64 (es a).key] 66) := by
                have := heap_alloc_new (wr.setCell ⟨we.heap.size, a, none⟩ (.bool true)) (.cells #[.float .f64 (es a).rect.a, .float .f64 (es a).rect.b, .float .f64 (es a).rect.c, .float .f64 (es a).rect.d, .int .i64 a, .float .f64 (es a).key] 66)
                rw [hw5]; rw [size_set] at this; exact this
              have hs5 : ∀ j, j < n → w5.cell? ⟨we.heap.size, j, none⟩ = some (.bool (decide (j ∈ (rs ++ nansTo es n).take (t + 1)))) ∧ w5.frozen? ⟨we.heap.size, j, none⟩ = false := fun j hj => by
                have et : (rs ++ nansTo es n).take (t + 1) = (rs ++ nansTo es n).take t ++ [a] := by rw [List.take_add_one, ha]; rfl
                have hca : Chg (fun _ => False) (wr.setCell ⟨we.heap.size, a, none⟩ (.bool true)) w5 := by rw [hw5]; exact (Chg.refl _ _).alloc _
                have hsl2 : we.heap.size < (wr.setCell ⟨we.heap.size, a, none⟩ (.bool true)).heap.size := by rw [size_set]; exact hsl
                refine ⟨?_, by rw [hca.frozen (p := ⟨we.heap.size, j, none⟩) hsl2 id, World.frozen?_setCell]; exact (HZ.out.1 j hj).2⟩
                rw [hca.cell (p := ⟨we.heap.size, j, none⟩) hsl2 id]
                by_cases e : j = a
                · subst e
                  rw [et, World.cell?_setCell_same' _ _ _ (by rw [(HZ.out.1 _ hj).1]; rfl)]
                  simp
                · rw [et, World.cell?_setCell_other _ _ _ _ (by intro h; apply e; cases h; rfl), (HZ.out.1 j hj).1]
                  simp [e]
              have hcw5 : Chg (fun _ => False) w3 w5 := HZ.out.2.2.step hc5 (fun j hj => .inr (by rw [hj]; exact HC.out.1.size))
              have HZ5 : Hid ((∀ j, j < n → w5.cell? ⟨we.heap.size, j, none⟩ = some (.bool (decide (j ∈ (rs ++ nansTo es n).take (t + 1)))) ∧ w5.frozen? ⟨we.heap.size, j, none⟩ = false) ∧ Chg (fun j => j = we.heap.size) (we.alloc (.cells (madeCells #[.bool false] n) 4)) w5 ∧ Chg (fun _ => False) w3 w5) := ⟨hs5, HZ.out.2.1.trans hc5, hcw5⟩
              have b0 : w5.cell? ⟨wr.heap.size, 0, none⟩ = some (.float .f64 (es a).rect.a) := cell_block hB5
              have b1 : w5.cell? ⟨wr.heap.size, 1, none⟩ = some (.float .f64 (es a).rect.b) := cell_block hB5
              have b2 : w5.cell? ⟨wr.heap.size, 2, none⟩ = some (.float .f64 (es a).rect.c) := cell_block hB5
              have b3 : w5.cell? ⟨wr.heap.size, 3, none⟩ = some (.float .f64 (es a).rect.d) := cell_block hB5
              have b4 : w5.cell? ⟨wr.heap.size, 4, none⟩ = some (.int .i64 a) := cell_block hB5
              have b5 : w5.cell? ⟨wr.heap.size, 5, none⟩ = some (.float .f64 (es a).key) := cell_block hB5
              have ev := (hcw5.cell (p := ⟨w.heap.size, 0, none⟩) HM.out.elt id).trans HM.out.ev
              have hgc5 := (hcw5.cell (p := ⟨C + 1, 0, none⟩) hGl id).trans hgc
              obtain ⟨eok, e0, e1, e2, e3, e4⟩ := (HM.out.esat.chg hcw5 id).2 a han
              have HR : Hid (∀ wx, Calls Yba.prog 10 #[.agg #[.int .i8 (es a).x, .int .i8 (es a).y, .int .u8 (es a).wd, .int .u8 (es a).ht, .int .i8 (es a).d]] wx fun r w' =>
                r = .returned (.agg #[.float .f64 (es a).rect.a, .float .f64 (es a).rect.b, .float .f64 (es a).rect.c, .float .f64 (es a).rect.d]) ∧ Below wx.heap.size wx w') := fun wx => rect_any (es a) wx eok
              have hbs : wr.heap.size < w5.heap.size := (Array.getElem?_eq_some_iff.1 hB5).1
              have hqn : ∀ wx, (binOp .neq 46 (.agg #[.float .f64 (es a).rect.a, .float .f64 (es a).rect.b, .float .f64 (es a).rect.c, .float .f64 (es a).rect.d]) (.agg #[.float .f64 (es a).rect.a, .float .f64 (es a).rect.b, .float .f64 (es a).rect.c, .float .f64 (es a).rect.d])).run Yba.prog wx = .ok (.bool false) wx := rect_neq' eok
              have hels : w.heap.size < w5.heap.size := Nat.lt_of_lt_of_le HM.out.elt hcw5.size
              have hebs : eb < w5.heap.size := Nat.lt_of_lt_of_le HM.out.esat.1 hcw5.size
              clear hcw5 hs5 HZ hB5 hc5 hw5 hsa2 hsf2 hsa hsf hOB OB z0 z1 z2 z3 z4 z5
              go_region_held (fun wx => wx.cell? ⟨wr.heap.size, 0, none⟩ = some (.float .f64 (es a).rect.a) ∧ wx.cell? ⟨wr.heap.size, 1, none⟩ = some (.float .f64 (es a).rect.b) ∧ wx.cell? ⟨wr.heap.size, 2, none⟩ = some (.float .f64 (es a).rect.c) ∧ wx.cell? ⟨wr.heap.size, 3, none⟩ = some (.float .f64 (es a).rect.d) ∧ wx.cell? ⟨wr.heap.size, 4, none⟩ = some (.int .i64 a) ∧
                  wx.cell? ⟨w.heap.size, 0, none⟩ = some (.slice (some ⟨eb, off, none⟩) n c) ∧ wx.cell? ⟨eb, off + a * 5, none⟩ = some (.int .i8 (es a).x) ∧ wx.cell? ⟨eb, off + a * 5 + 1, none⟩ = some (.int .i8 (es a).y) ∧ wx.cell? ⟨eb, off + a * 5 + 2, none⟩ = some (.int .u8 (es a).wd) ∧ wx.cell? ⟨eb, off + a * 5 + 3, none⟩ = some (.int .u8 (es a).ht) ∧ wx.cell? ⟨eb, off + a * 5 + 4, none⟩ = some (.int .i8 (es a).d))
                (go_keep)
                (first | (go_at_call 10; refine (HR.out _).mono ?_; rintro e w6 ⟨rfl, hb6⟩
                          have q0 := (hb6.cell (p := ⟨wr.heap.size, 0, none⟩) hbs).trans b0
                          have q1 := (hb6.cell (p := ⟨wr.heap.size, 1, none⟩) hbs).trans b1
                          have q2 := (hb6.cell (p := ⟨wr.heap.size, 2, none⟩) hbs).trans b2
                          have q3 := (hb6.cell (p := ⟨wr.heap.size, 3, none⟩) hbs).trans b3
                          have q4 := (hb6.cell (p := ⟨wr.heap.size, 4, none⟩) hbs).trans b4
                          have q5 := (hb6.cell (p := ⟨w.heap.size, 0, none⟩) hels).trans ev
                          have p0 := (hb6.cell (p := ⟨eb, off + a * 5, none⟩) hebs).trans e0
                          have p1 := (hb6.cell (p := ⟨eb, off + a * 5 + 1, none⟩) hebs).trans e1
                          have p2 := (hb6.cell (p := ⟨eb, off + a * 5 + 2, none⟩) hebs).trans e2
                          have p3 := (hb6.cell (p := ⟨eb, off + a * 5 + 3, none⟩) hebs).trans e3
                          have p4 := (hb6.cell (p := ⟨eb, off + a * 5 + 4, none⟩) hebs).trans e4))
              have HB6 : Hid (Chg (fun _ => False) w5 w6) := Chg.step ((Chg.refl _ w5).drewN _) (Chg.of_below hb6 (fun _ => False)) (fun _ f => f.elim)
              have q6 := (HB6.out.cell (p := ⟨wr.heap.size, 5, none⟩) hbs id).trans b5
              have q7 := (HB6.out.cell (p := ⟨C + 1, 0, none⟩) (Nat.lt_of_lt_of_le hGl HZ5.out.2.2.size) id).trans hgc5
              have hunl : un ≤ n := by rw [HUN.out]; exact hle n
              clear hb6 b0 b1 b2 b3 b4 b5 ev e0 e1 e2 e3 e4 HR hqn
              have HF : Hid (∀ wz : World, Chg (fun _ => False) w5 wz → ∀ q, Chg (fun j => j = we.heap.size) (we.alloc (.cells (madeCells #[.bool false] n) 4)) (wz.drewN q) ∧ ∀ j, j < n → (wz.drewN q).cell? ⟨we.heap.size, j, none⟩ = some (.bool (decide (j ∈ (rs ++ nansTo es n).take (t + 1)))) ∧ (wz.drewN q).frozen? ⟨we.heap.size, j, none⟩ = false) := fun wz hz q =>
                ⟨(HZ5.out.2.1.trans (hz.mono fun _ f => f.elim)).drewN q, fun j hj => ⟨((hz.drewN q).cell (p := ⟨we.heap.size, j, none⟩) (Nat.lt_trans hsl hbs) id).trans (HZ5.out.1 j hj).1, ((hz.drewN q).frozen (p := ⟨we.heap.size, j, none⟩) (Nat.lt_trans hsl hbs) id).trans (HZ5.out.1 j hj).2⟩⟩
              by_cases hr : t < n - un
              · have hrc : (t : Int) < (n : Int) - (un : Int) := by omega
                obtain ⟨hnan, hprev⟩ := hr1 (by rw [← HUN.out]; exact hr)
                have hfin := key_fin (es a) eok hnan
                rw [fl_key hnan] at q6
                rw [fl_key hnan] at hfin
                have hfo : FloatKind.f64.format.order (floatOfInt .f64 (es a).d) (floatOfInt .f64 (es a).d) = some .eq := order_self hfin
                have HN : Hid (∀ wx, Calls Yba.prog 13 #[.agg #[.int .i8 (es a).x, .int .i8 (es a).y, .int .u8 (es a).wd, .int .u8 (es a).ht, .int .i8 (es a).d]] wx fun r w' => r = .returned (.bool (es a).nan) ∧ Below wx.heap.size wx w') := fun wx => nan_any (es a) wx
                have HPv : Hid (0 < t → ∃ b, (rs ++ nansTo es n)[t - 1]? = some b ∧ (es b).nan = false ∧ b < n ∧ kf es b ≤ kf es a) := hprev
                clear hr1 hr2 hprev hfin
                have q6' : w6.cell? ⟨wr.heap.size, 5, none⟩ = some (.float .f64 (floatOfInt .f64 (es a).d)) := q6
                clear q6
                have hbs6 := Nat.lt_of_lt_of_le hbs HB6.out.size
                have hels6 := Nat.lt_of_lt_of_le hels HB6.out.size
                have hebs6 := Nat.lt_of_lt_of_le hebs HB6.out.size
                clear hbs hels hebs
                go_upto_region 37 with fail
                go_region_held (fun wx => wx.cell? ⟨wr.heap.size, 4, none⟩ = some (.int .i64 a) ∧ wx.cell? ⟨wr.heap.size, 5, none⟩ = some (.float .f64 (floatOfInt .f64 (es a).d)) ∧
                    wx.cell? ⟨w.heap.size, 0, none⟩ = some (.slice (some ⟨eb, off, none⟩) n c) ∧ wx.cell? ⟨eb, off + a * 5, none⟩ = some (.int .i8 (es a).x) ∧ wx.cell? ⟨eb, off + a * 5 + 1, none⟩ = some (.int .i8 (es a).y) ∧ wx.cell? ⟨eb, off + a * 5 + 2, none⟩ = some (.int .u8 (es a).wd) ∧ wx.cell? ⟨eb, off + a * 5 + 3, none⟩ = some (.int .u8 (es a).ht) ∧ wx.cell? ⟨eb, off + a * 5 + 4, none⟩ = some (.int .i8 (es a).d))
                  (go_keep)
                  (first | (go_at_call 13; refine (HN.out _).mono ?_; rintro e w7 ⟨rfl, hb7⟩
                            rw [hnan]
                            have s4 := (hb7.cell (p := ⟨wr.heap.size, 4, none⟩) hbs6).trans q4
                            have s5 := (hb7.cell (p := ⟨wr.heap.size, 5, none⟩) hbs6).trans q6'
                            have s6 := (hb7.cell (p := ⟨w.heap.size, 0, none⟩) hels6).trans q5
                            have t0 := (hb7.cell (p := ⟨eb, off + a * 5, none⟩) hebs6).trans p0
                            have t1 := (hb7.cell (p := ⟨eb, off + a * 5 + 1, none⟩) hebs6).trans p1
                            have t2 := (hb7.cell (p := ⟨eb, off + a * 5 + 2, none⟩) hebs6).trans p2
                            have t3 := (hb7.cell (p := ⟨eb, off + a * 5 + 3, none⟩) hebs6).trans p3
                            have t4 := (hb7.cell (p := ⟨eb, off + a * 5 + 4, none⟩) hebs6).trans p4))
                have HB7 : Hid (Chg (fun _ => False) w5 w7) := HB6.out.trans (Chg.step ((Chg.refl _ w6).drewN _) (Chg.of_below hb7 (fun _ => False)) (fun _ f => f.elim))
                have s7 := (HB7.out.cell (p := ⟨C + 1, 0, none⟩) (Nat.lt_of_lt_of_le hGl HZ5.out.2.2.size) id).trans hgc5
                have HG7 : Hid (w7.ownsRow base 66 6 (.slice (some ⟨gg, 0, none⟩) n cg) n (nbs es (rs ++ nansTo es n))) := own_chg HM.out.g.own (HZ5.out.2.2.trans HB7.out) (fun _ _ f => f)
                clear hb7 q0 q1 q2 q3 q4 q5 q6' q7 p0 p1 p2 p3 p4 t0 t1 t2 t3 t4 HN hfo hgc5
                by_cases ht0 : 0 < t
                · obtain ⟨b, hb, hbn, hbl, hbk⟩ := HPv.out ht0
                  obtain ⟨eb', _⟩ := HM.out.esat.2 b hbl
                  obtain ⟨m, hm⟩ : ∃ m, m = t - 1 := ⟨_, rfl⟩
                  rw [← hm] at hb
                  have hzc : w7.cell? ⟨gg, m * 6 + 5, none⟩ = some (.float .f64 (es b).key) := by
                    rw [HG7.out.cellAt _ (by omega), nbs_get es _ m 5 (by omega) b hb]; rfl
                  have hgo : (FloatKind.f64.format.order (es b).key (floatOfInt .f64 (es a).d) == some .gt) = false := by
                    have h1 := order_fin (key_fin _ eb' hbn) (key_fin _ eok hnan)
                    have h2 : ¬ fv (es a).key < fv (es b).key := by unfold kf at hbk; omega
                    rw [fl_key hnan] at h1 h2
                    have h3 : FloatKind.f64.format.order (es b).key (floatOfInt .f64 (es a).d) = some (compare (fv (es b).key) (fv (fl (es a).d))) := h1
                    rw [h3]
                    cases hcm : compare (fv (es b).key) (fv (fl (es a).d)) with
                    | gt => exact absurd (Int.compare_eq_gt.1 hcm) h2
                    | lt => rfl
                    | eq => rfl
                  have hmt : (t : Int) - 1 = (m : Int) := by omega
                  have hm1 : (m : Int) < (n : Int) := by omega
                  have hwr : IntKind.i64.wrap (m : Int) = (m : Int) := by simp [IntKind.wrap, IntKind.bits, IntKind.signed]; omega
                  have hm5 : ¬ (n : Int) ≤ (m : Int) := by omega
                  have hm6 : ((m : Int) < 0) = False := eq_false (by omega)
                  have ht1 : decide ((0 : Int) < (t : Int)) = true := decide_eq_true (by omega)
                  have ht2 : (0 : Int) < (t : Int) := by omega
                  have ht3 : decide (0 < t) = true := decide_eq_true ht0
                  clear hb hbn hbl hbk eb' hm
                  go_upto_region 39 with fail
                  go_quiet (fail)
                  go_wp2_with fail
                  refine ⟨⟨t + 1, by omega, by simp, HF.out _ HB7.out _⟩, by simp [intOf]; omega⟩
                · have ht1 : decide ((0 : Int) < (t : Int)) = false := decide_eq_false (by omega)
                  have ht2 : ¬ (0 : Int) < (t : Int) := by omega
                  have ht3 : decide (0 < t) = false := decide_eq_false ht0
                  go_upto_region 39 with fail
                  go_quiet (fail)
                  go_wp2_with fail
                  refine ⟨⟨t + 1, by omega, by simp, HF.out _ HB7.out _⟩, by simp [intOf]; omega⟩
              · have hrc : ¬ (t : Int) < (n : Int) - (un : Int) := by omega
                obtain ⟨hnan, hix⟩ := hr2 (by rw [← HUN.out]; exact hr)
                rw [← HUN.out] at hix
                rw [nan_key hnan] at q6
                obtain ⟨m, hm⟩ : ∃ m, m = t - (n - un) := ⟨_, rfl⟩
                rw [← hm] at hix
                have hmu : m < un := by omega
                have hmt : (t : Int) - ((n : Int) - (un : Int)) = (m : Int) := by omega
                have hno : w6.ownsRow w3.heap.size 3 1 (.slice pn un cn) un ((nansTo es n).map fun i => .int .i64 (i : Nat)) := own_chg (own_chg (own_alloc HC.out.2 _) HZ5.out.2.1 (fun g hg e => by have := (own_lt HC.out.2 hg).2; omega)) HB6.out (fun _ _ f => f)
                obtain ⟨gn, _, hpe, _, _⟩ := hno.form (by omega)
                cases hpe
                have hzc : w6.cell? ⟨gn, m, none⟩ = some (.int .i64 a) := by
                  have h1 := hno.cellAt m (by omega)
                  rw [h1, List.getElem?_map, hix]; rfl
                have hno' := nan_neq
                have hm1 : (m : Int) < (un : Int) := by omega
                have hwr : IntKind.i64.wrap (m : Int) = (m : Int) := by simp [IntKind.wrap, IntKind.bits, IntKind.signed]; omega
                have hm5 : ¬ (un : Int) ≤ (m : Int) := by omega
                have hm6 : ((m : Int) < 0) = False := eq_false (by omega)
                clear hr1 hr2 hix hm hno q0 q1 q2 q3 q5 p0 p1 p2 p3 p4 q7 hgc5
                go_upto_region 41 with fail
                go_quiet (fail)
                go_wp2_with fail
                refine ⟨⟨t + 1, by omega, by simp, HF.out _ HB6.out _⟩, by simp [intOf]; omega⟩
            · obtain rfl : n = t := by omega
              have HQ2 : Hid (Chg (fun j => j = we.heap.size) (we.alloc (.cells (madeCells #[.bool false] n) 4)) wr) := hc
              clear hc hseen
              go_wp2_with fail
              go_ret
              exact ⟨rfl, Below.chg HM.out.low (HQ.out.step HQ2.out (fun j hj => .inr (by rw [hj]; exact HC.out.1.size))) (fun _ f => f.elim) HM.out.b0⟩

end Go.Proofs.Ybulkazxi
