/-
  LawS2556ANearestOrder: her own walk.
-/
import Derived.Test.YbulkazxiWalk3
import Derived.Test.YbulkazxiBounds
import Derived.Test.YbulkazxiLaw4
namespace Go.Proofs.Ybulkazxi
open Go.RowKit
attribute [local go_sem] run_store_float func_eq_nil nil_eq_nil
attribute [local go_sem ↓] Go.wp_at_zero Go.wp_at_succ

/-- The tree so far: k children. -/
structure B3 (w0 w : World) (es : Nat → En) (n k : Nat) (ch : Nat → Nat) : Prop where
  low : Below w0.heap.size w0 w
  s : w.heap[w0.heap.size]? = some (.cells #[.int .u64 0, .pointer none, .int .i64 0, .int .i64 0, .pointer none] 28)
  root : NodeAt w (w0.heap.size + 1) (rootN (bdOf es n) ch k 0)
  kids : ∀ j, j < k → NodeAt w (ch j) (leafN es (7 * j) (cnt n j) (cnt n j)) ∧ w0.heap.size + 1 < ch j

theorem B3.far {w0 w w' : World} {es : Nat → En} {n k : Nat} {ch : Nat → Nat} (h : B3 w0 w es n k ch) (hc : Chg (fun _ => False) w w') : B3 w0 w' es n k ch := by
  have hl := (Array.getElem?_eq_some_iff.1 h.s).1
  exact ⟨Below.chg h.low hc (fun _ f => f.elim) h.low.size, (hc.block _ hl id).trans h.s, h.root.chg hc id, fun j hj => ⟨(h.kids j hj).1.chg hc id, (h.kids j hj).2⟩⟩

theorem B3.put {w0 w : World} {es : Nat → En} {n k cb : Nat} {ch : Nat → Nat} {r : I4} (h : B3 w0 w es n k ch) (hk : k < 40) (hN : NodeAt w cb (leafN es (7 * k) (cnt n k) (cnt n k))) (hcb : w0.heap.size + 1 < cb) (hr : r = bdOf es n k) :
    B3 w0 (((((w.setCell ⟨w0.heap.size + 1, 6 + k * 4, none⟩ (.float .f64 (fl r.a))).setCell ⟨w0.heap.size + 1, 6 + k * 4 + 1, none⟩ (.float .f64 (fl r.b))).setCell ⟨w0.heap.size + 1, 6 + k * 4 + 2, none⟩ (.float .f64 (fl r.c))).setCell ⟨w0.heap.size + 1, 6 + k * 4 + 3, none⟩ (.float .f64 (fl r.d))).setCell ⟨w0.heap.size + 1, 166 + k * 3 + 1, none⟩ (.pointer (some ⟨cb, 0, none⟩))) es n (k + 1) (upd ch k cb) := by
  have hl := (Array.getElem?_eq_some_iff.1 h.s).1
  have h1 := (h.root.setRect k r.fl hk).setChild k cb hk
  have hc : Chg (fun j => j = w0.heap.size + 1) w (((((w.setCell ⟨w0.heap.size + 1, 6 + k * 4, none⟩ (.float .f64 (fl r.a))).setCell ⟨w0.heap.size + 1, 6 + k * 4 + 1, none⟩ (.float .f64 (fl r.b))).setCell ⟨w0.heap.size + 1, 6 + k * 4 + 2, none⟩ (.float .f64 (fl r.c))).setCell ⟨w0.heap.size + 1, 6 + k * 4 + 3, none⟩ (.float .f64 (fl r.d))).setCell ⟨w0.heap.size + 1, 166 + k * 3 + 1, none⟩ (.pointer (some ⟨cb, 0, none⟩))) :=
    ((((((Chg.refl (fun j => j = w0.heap.size + 1) w).setCell (p := ⟨w0.heap.size + 1, 6 + k * 4, none⟩) (.inl rfl) _).setCell (p := ⟨w0.heap.size + 1, 6 + k * 4 + 1, none⟩) (.inl rfl) _).setCell (p := ⟨w0.heap.size + 1, 6 + k * 4 + 2, none⟩) (.inl rfl) _).setCell (p := ⟨w0.heap.size + 1, 6 + k * 4 + 3, none⟩) (.inl rfl) _).setCell (p := ⟨w0.heap.size + 1, 166 + k * 3 + 1, none⟩) (.inl rfl) _)
  refine ⟨Below.chg h.low hc (fun j hj => by omega) h.low.size, (hc.block _ hl (by omega)).trans h.s, ?_, fun j hj => ?_⟩
  · refine cast ?_ h1
    congr 1
    show Nd.mk _ _ _ _ _ = Nd.mk _ _ _ _ _
    congr 1
    · funext i
      by_cases e : i = k
      · subst e; simp [rootN, upd_same, hr]
      · simp only [rootN, upd_ne _ _ _ e]
        have : i < k ↔ i < k + 1 := by omega
        simp only [this]
    · funext i
      by_cases e : i = k
      · subst e; simp [rootN, upd_same]
      · simp only [rootN, upd_ne _ _ _ e]
        have : i < k ↔ i < k + 1 := by omega
        simp only [this]
  · by_cases e : j = k
    · subst e
      rw [upd_same]
      exact ⟨hN.chg hc (by omega), hcb⟩
    · rw [upd_ne _ _ _ e]
      have := h.kids j (by omega)
      exact ⟨this.1.chg hc (by omega), this.2⟩

/-- The walk, called in the world in which the point, the stop and the slice were made. -/
theorem walk3_call (P : Px) (N : Nat) (ch : Nat → Nat) (w5 : World) (h c : Int) (ok : P.ok) (hn : P.n ≤ 280) (ht : Tree P N ch w5) :
    Calls Yba.prog 8 #[.agg #[.int .u64 0, .pointer (some ⟨N, 0, none⟩), .int .i64 h, .int .i64 c, .pointer none], .agg #[.float .f64 (fl P.px), .float .f64 (fl P.py)], .nilFunc, .func (.func 9) #[] #[.pointer (some ⟨w5.heap.size + 1 + 1, 0, none⟩), .pointer (some ⟨w5.heap.size + 1, 0, none⟩)]]
      (((w5.alloc (.cells #[.float .f64 (fl P.px), .float .f64 (fl P.py)] 44)).alloc (.cells #[.int .i64 (P.stop : Nat)] 3)).alloc (.cells #[.slice none 0 0] 63)) fun e w' => e = .returned (.tuple #[]) ∧
      ∃ rs gv base, Got P rs ∧ Acc w' base ⟨w5.heap.size + 1 + 1, 0, none⟩ 66 6 gv rs.length (nb3 P rs) ∧ Chg (fun j => j = w5.heap.size + 1 + 1) (((w5.alloc (.cells #[.float .f64 (fl P.px), .float .f64 (fl P.py)] 44)).alloc (.cells #[.int .i64 (P.stop : Nat)] 3)).alloc (.cells #[.slice none 0 0] 63)) w' := by
  obtain ⟨w6, hw6⟩ : ∃ w6, w6 = ((w5.alloc (.cells #[.float .f64 (fl P.px), .float .f64 (fl P.py)] 44)).alloc (.cells #[.int .i64 (P.stop : Nat)] 3)).alloc (.cells #[.slice none 0 0] 63) := ⟨_, rfl⟩
  have hs6 : w6.heap.size = w5.heap.size + 1 + 1 + 1 := by rw [hw6]; simp
  have hc : Chg (fun _ => False) w5 w6 := by rw [hw6]; exact (((Chg.refl _ w5).alloc _).alloc _).alloc _
  have hG : w6.heap[w5.heap.size + 1 + 1]? = some (.cells #[.slice none 0 0] 63) := by
    have := heap_alloc_new ((w5.alloc (.cells #[.float .f64 (fl P.px), .float .f64 (fl P.py)] 44)).alloc (.cells #[.int .i64 (P.stop : Nat)] 3)) (.cells #[.slice none 0 0] 63)
    rw [hw6]
    simpa using this
  have hT : w6.heap[w5.heap.size + 1]? = some (.cells #[.int .i64 (P.stop : Nat)] 3) := by
    have := heap_alloc_new (w5.alloc (.cells #[.float .f64 (fl P.px), .float .f64 (fl P.py)] 44)) (.cells #[.int .i64 (P.stop : Nat)] 3)
    rw [size_alloc] at this
    rw [hw6]; exact (Below.heap_alloc _ _ _ (by simp)).trans this
  rw [← hw6]
  have hrl := ht.root.lt
  have hW : Wi ⟨P, N, ch, w5.heap.size + 1 + 1, w5.heap.size + 1, w6.heap.size + 1 + 1, w6.heap.size + 1 + 1 + 1, w6.heap.size + 1 + 1 + 1 + 1⟩ w6 :=
    ⟨ht.chg hc id (fun _ _ => id), ok, hn, by simp only; omega, fun j hj => by have := (ht.kids j hj).lt; simp only; omega, by simp only; omega, ⟨cell_block hG, frozen_block hG⟩, by simp only; omega, by simp only; omega, cell_block hT, rfl, rfl, rfl⟩
  refine (walk3_any _ h c w6 hW).mono ?_
  rintro e w' ⟨rfl, rs, gv, hg, ha, hch⟩
  exact ⟨rfl, rs, gv, _, hg, ha, hch⟩

/-- Taken entry number t. -/
theorem got_at {P : Px} {rs : List Nat} (h : Got P rs) (t : Nat) (ht : t < rs.length) : ∃ a, rs[t]? = some a ∧ a < P.n ∧ a ∉ rs.take t ∧ (0 < t → ∃ b, rs[t - 1]? = some b ∧ b < P.n ∧ P.kd b ≤ P.kd a) := by
  refine ⟨rs[t], List.getElem?_eq_getElem ht, h.lt _ (List.getElem_mem ht), ?_, fun h0 => ⟨rs[t - 1], List.getElem?_eq_getElem (by omega), h.lt _ (List.getElem_mem _), ?_⟩⟩
  · intro hm
    obtain ⟨i, hi, he⟩ := List.getElem_of_mem hm
    have hi' : i < t := by simp at hi; omega
    rw [List.getElem_take] at he
    exact List.pairwise_iff_getElem.1 h.nodup i t (by omega) ht hi' he
  · exact List.pairwise_iff_getElem.1 h.ord (t - 1) t (by omega) ht (by omega)

theorem not_gt {x y : Nat} (hx : fin x = true) (hy : fin y = true) (h : fv x ≤ fv y) : (FloatKind.f64.format.order x y == some .gt) = false := by
  rw [order_fin hx hy]
  cases hc : compare (fv x) (fv y) with
  | gt => have := Int.compare_eq_gt.1 hc; omega
  | lt => rfl
  | eq => rfl

def i4c (r : I4) : Array Value := #[.float .f64 (fl r.a), .float .f64 (fl r.b), .float .f64 (fl r.c), .float .f64 (fl r.d)]

/-- The cells of slot t of a leaf. -/
theorem leaf_cells {w : World} {b m q t : Nat} {es : Nat → En} {u : Int} (h : NodeAt w b (leafN es m q u)) (ht : t < q) (hq : q ≤ 40) :
    w.cell? ⟨b, 6 + t * 4, none⟩ = some (.float .f64 (fl (es (m + t)).i4.a)) ∧ w.cell? ⟨b, 6 + t * 4 + 1, none⟩ = some (.float .f64 (fl (es (m + t)).i4.b)) ∧ w.cell? ⟨b, 6 + t * 4 + 2, none⟩ = some (.float .f64 (fl (es (m + t)).i4.c)) ∧ w.cell? ⟨b, 6 + t * 4 + 3, none⟩ = some (.float .f64 (fl (es (m + t)).i4.d)) := by
  have h40 : t < 40 := by omega
  have e : (leafN es m q u).rect t = (es (m + t)).rect := by simp [leafN, ht]
  refine ⟨?_, ?_, ?_, ?_⟩
  · have := h.ra h40; rw [e] at this; exact this
  · have := h.rb h40; rw [e] at this; exact this
  · have := h.rc h40; rw [e] at this; exact this
  · have := h.rd h40; rw [e] at this; exact this

set_option maxRecDepth 100000 in
set_option maxHeartbeats 2000000 in
theorem law3_some (eb off n c : Nat) (es : Nat → En) (px py ks : Int) (w : World) (hn : n ≤ 280) (h0 : 0 < n) (hes : EsAt w eb off n es) (hx : pok px) (hy : pok py) (hk : 0 ≤ ks ∧ ks ≤ 255) :
    Calls Yba.prog 3 #[.slice (some ⟨eb, off, none⟩) n c, .int .i8 px, .int .i8 py, .int .u8 ks] w fun e w' => e = .returned (.bool true) ∧ Below w.heap.size w w' := by
  have hn' : ¬ (280 : Int) < (n : Int) := by omega
  have h0' : (0 : Int) < (n : Int) := by omega
  have HE : Hid (EsAt w eb off n es) := hes
  have HP : Hid (pok px ∧ pok py ∧ 0 ≤ ks ∧ ks ≤ 255) := ⟨hx, hy, hk⟩
  clear hes hx hy hk
  go_enter Yba.func3, Yba.ntmps3
  go_upto_region 7 with fail
  go_cut [12] from 27 (fun cv wc => cv = .int .i64 0 ∧ B3 w wc es n 0 (fun _ => 0))
  case first =>
    go_wp2_with fail
    go_meet
    case rel =>
      refine ⟨rfl, ((Below.refl _ w).alloc (Nat.le_refl _) _).alloc (by simp) _, ?_, ?_, fun j hj => absurd hj (Nat.not_lt_zero _)⟩
      · exact (Below.heap_alloc _ _ _ (by simp)).trans (heap_alloc_new w _)
      · have := heap_alloc_new (w.alloc (.cells #[.int .u64 0, .pointer none, .int .i64 0, .int .i64 0, .pointer none] 28)) (.cells Yba.zeroCells60 60)
        rw [size_alloc] at this
        exact node_zero this
  case rest =>
    obtain ⟨rfl, hB⟩ := hcut
    have HB0 : Hid (B3 w wc es n 0 (fun _ => 0)) := hB
    clear hB
    go_wp2_with fail
    go_loopw [12, 13] (fun cv fv wr => ∃ (k m : Nat) (ch : Nat → Nat), m = 7 * k ∧ m < n + 7 ∧ cv = .int .i64 k ∧ fv = .int .i64 m ∧ B3 w wr es n k ch) (fun _ fv _ => n + 7 - (intOf fv).toNat)
    case atStart => exact ⟨0, 0, _, rfl, by omega, rfl, rfl, HB0.out⟩
    case round =>
      obtain ⟨k, m, ch, hm, hmn, rfl, rfl, hB⟩ := hrel
      clear HB0
      have HM : Hid (m = 7 * k) := hm
      have HB : Hid (B3 w wr es n k ch) := hB
      by_cases hlt : m < n
      · have hlc : (m : Int) < (n : Int) := by omega
        have hk40 : k < 40 := by omega
        obtain ⟨T, hT⟩ : ∃ T, T = m + cnt n k := ⟨_, rfl⟩
        have hTn : T ≤ n := by rw [hT]; unfold cnt; omega
        have hcp : 0 < cnt n k := cnt_pos (by omega)
        have hcl := cnt_le n k
        have hto : (if (n : Int) < (m : Int) + 7 then (n : Int) else (m : Int) + 7) = (T : Int) := by
          rw [hT]; unfold cnt; split <;> omega
        have hTm : T - m = cnt n k := by omega
        have HLf : Hid (Calls Yba.prog 6 #[.slice (some ⟨eb, off, none⟩) n c, .int .i64 m, .int .i64 T] wr fun r w' => r = .returned (.pointer (some ⟨wr.heap.size, 0, none⟩)) ∧ NodeAt w' wr.heap.size (leafN es m (cnt n k) (cnt n k)) ∧ Below wr.heap.size wr w') := by
          have h := leaf_any eb off n c m T es wr (HE.out.below HE.out.1 hB.low) (by omega) hTn (by omega) (by omega)
          rw [hTm] at h
          exact h
        have HT : Hid (T = m + cnt n k) := hT
        clear hB hm hT hTm
        go_upto_region 13 with (go_at_call 6; refine HLf.out.mono ?_; rintro e w1 ⟨rfl, hN1, hb1⟩)
        obtain ⟨q, hq⟩ : ∃ q, q = cnt n k := ⟨_, rfl⟩
        rw [← hq] at hcp hcl hN1
        obtain ⟨l0, l1, l2, l3⟩ := leaf_cells hN1 hcp (by omega)
        simp only [Nat.add_zero, Nat.zero_mul] at l0 l1 l2 l3
        obtain ⟨w2, hw2⟩ : ∃ w2, w2 = w1.alloc (.cells #[.float .f64 (fl (es m).i4.a), .float .f64 (fl (es m).i4.b), .float .f64 (fl (es m).i4.c), .float .f64 (fl (es m).i4.d)] 46) := ⟨_, rfl⟩
        have hB2 : w2.heap[w1.heap.size]? = some (.cells (i4c (bdTo es m 0)) 46) := by rw [hw2]; exact heap_alloc_new w1 _
        have hc12 : Chg (fun _ => False) w1 w2 := by rw [hw2]; exact (Chg.refl _ w1).alloc _
        have HQ : Hid (q = cnt n k) := hq
        have H2 : Hid (w2.heap[w1.heap.size]? = some (.cells (i4c (bdTo es m 0)) 46) ∧ NodeAt w2 wr.heap.size (leafN es m q q) ∧ Chg (fun _ => False) wr w2) := ⟨hB2, hN1.chg hc12 id, (Chg.of_below hb1 (fun _ => False)).trans hc12⟩
        have hcb : wr.heap.size < w1.heap.size := hN1.lt
        have HOK : Hid (∀ t, t < q → (es (m + t)).i4.ok ∧ (bdTo es m t).ok) := fun t ht => by
          have hmt : m + t < n := by have := HM.out; have := HQ.out; have := cnt_lt (n := n) (j := k) (i := t) (by omega); omega
          exact ⟨En.i4_ok (HE.out.2 _ hmt).1, (bdTo_ok (f := m) (n := n) (fun k hk => (HE.out.2 k hk).1) t hmt).1⟩
        clear hB2 hc12 hq hN1 hb1 HLf
        go_upto_region 14 with fail
        rw [← hw2]
        clear hw2 l0 l1 l2 l3
        have hTm' : (T : Int) - (m : Int) = (q : Int) := by have := HT.out; have := HQ.out; omega
        obtain ⟨B, hBe⟩ : ∃ B, B = w1.heap.size := ⟨_, rfl⟩
        obtain ⟨cb, hcbe⟩ : ∃ cb, cb = wr.heap.size := ⟨_, rfl⟩
        rw [← hBe] at hcb H2 ⊢
        rw [← hcbe] at hcb H2 ⊢
        have HBe : Hid (B = w1.heap.size ∧ cb = wr.heap.size) := ⟨hBe, hcbe⟩
        clear hBe hcbe
        go_wp2_with fail
        go_loopw [17] (fun jv w' => ∃ t : Nat, 1 ≤ t ∧ t ≤ q ∧ jv = .int .i64 t ∧ Chg (fun j => j = B) w2 w' ∧ w'.heap[B]? = some (.cells (i4c (bdTo es m (t - 1))) 46)) (fun jv _ => q - (intOf jv).toNat)
        case atStart => exact ⟨1, Nat.le_refl _, hcp, rfl, Chg.refl _ _, H2.out.1⟩
        case round =>
          obtain ⟨t, ht1, htq, rfl, hc2, hBc⟩ := hrel
          by_cases htl : t < q
          · have htc : (t : Int) < (q : Int) := by omega
            have ht40 : (t : Int) < 40 := by omega
            obtain ⟨s, hs⟩ : ∃ s, s = t - 1 := ⟨_, rfl⟩
            rw [← hs] at hBc
            obtain ⟨a1, b1, c1, d1⟩ := (⟨rfl, rfl, rfl, rfl⟩ : (bdTo es m s).a = (bdTo es m s).a ∧ (bdTo es m s).b = (bdTo es m s).b ∧ (bdTo es m s).c = (bdTo es m s).c ∧ (bdTo es m s).d = (bdTo es m s).d)
            have hoks := HOK.out s (by omega)
            have hokt := HOK.out t htl
            obtain ⟨⟨A1, B1, C1, D1⟩, hI1⟩ : ∃ r : I4, r = bdTo es m s := ⟨_, rfl⟩
            obtain ⟨⟨A2, B2, C2, D2⟩, hI2⟩ : ∃ r : I4, r = (es (m + t)).i4 := ⟨_, rfl⟩
            have m1 := (I4.sml hoks.2)
            have m2 := (I4.sml hokt.1)
            rw [← hI1] at m1 hBc
            rw [← hI2] at m2
            simp only at m1 m2
            have f1 := fun ts ty wx => run_min_fl ts ty A1 A2 m1.1 m2.1 wx
            have f2 := fun ts ty wx => run_min_fl ts ty B1 B2 m1.2.1 m2.2.1 wx
            have f3 := fun ts ty wx => run_max_fl ts ty C1 C2 m1.2.2.1 m2.2.2.1 wx
            have f4 := fun ts ty wx => run_max_fl ts ty D1 D2 m1.2.2.2 m2.2.2.2 wx
            have hN := H2.out.2.1.chg hc2 (show ¬ cb = B by omega)
            obtain ⟨l0, l1, l2, l3⟩ := leaf_cells hN htl (by omega)
            rw [← hI2] at l0 l1 l2 l3
            simp only at l0 l1 l2 l3
            have p0 : wr.cell? ⟨B, 0, none⟩ = some (.float .f64 (fl A1)) := cell_block hBc
            have p1 : wr.cell? ⟨B, 1, none⟩ = some (.float .f64 (fl B1)) := cell_block hBc
            have p2 : wr.cell? ⟨B, 2, none⟩ = some (.float .f64 (fl C1)) := cell_block hBc
            have p3 : wr.cell? ⟨B, 3, none⟩ = some (.float .f64 (fl D1)) := cell_block hBc
            have pf : ∀ o, wr.frozen? ⟨B, o, none⟩ = false := fun o => frozen_block hBc
            have hBl : B < wr.heap.size := (Array.getElem?_eq_some_iff.1 hBc).1
            have HC2 : Hid (Chg (fun j => j = B) w2 wr ∧ wr.heap[B]? = some (.cells (i4c ⟨A1, B1, C1, D1⟩) 46) ∧ s = t - 1 ∧ I4.mk A1 B1 C1 D1 = bdTo es m s ∧ I4.mk A2 B2 C2 D2 = (es (m + t)).i4) := ⟨hc2, hBc, hs, hI1, hI2⟩
            have hBn : B ≠ wr.heap.size := by omega
            clear hc2 hBc hs hI1 hI2 m1 m2 hoks hokt hN a1 b1 c1 d1
            go_wp2_with fail
            refine ⟨⟨t + 1, by omega, by omega, by simp, ?_, ?_⟩, by simp [intOf]; omega⟩
            · exact ((((HC2.out.1.setCell (p := ⟨B, 0, none⟩) (.inl rfl) _).setCell (p := ⟨B, 1, none⟩) (.inl rfl) _).setCell (p := ⟨B, 2, none⟩) (.inl rfl) _).setCell (p := ⟨B, 3, none⟩) (.inl rfl) _).alloc _
            · have hts : t = s + 1 := by have := HC2.out.2.2.1; omega
              have e1 : bdTo es m (t + 1 - 1) = (I4.mk A1 B1 C1 D1).join (I4.mk A2 B2 C2 D2) := by
                rw [HC2.out.2.2.2.1, HC2.out.2.2.2.2, hts]; rfl
              rw [e1]
              refine (Below.heap_alloc _ _ _ (by simp only [size_set]; exact hBl)).trans ?_
              exact heap_set_same _ _ _ _ (heap_set_same _ _ _ _ (heap_set_same _ _ _ _ (heap_set_same _ _ _ _ HC2.out.2.1)))
          · obtain rfl : q = t := by omega
            have hcw := H2.out.2.2.step hc2 (fun j hj => .inr (by have := HBe.out; omega))
            have hB := HB.out.far hcw
            have hN := H2.out.2.1.chg hc2 (show ¬ cb = B by omega)
            have hfz := hB.root.frz
            have r0 := hB.root.ra hk40
            have r1 := hB.root.rb hk40
            have r2 := hB.root.rc hk40
            have r3 := hB.root.rd hk40
            have r5 := hB.root.chc hk40
            obtain ⟨⟨A1, B1, C1, D1⟩, hI1⟩ : ∃ r : I4, r = bdTo es m (q - 1) := ⟨_, rfl⟩
            rw [← hI1] at hBc
            have p0 : wr.cell? ⟨B, 0, none⟩ = some (.float .f64 (fl A1)) := cell_block hBc
            have p1 : wr.cell? ⟨B, 1, none⟩ = some (.float .f64 (fl B1)) := cell_block hBc
            have p2 : wr.cell? ⟨B, 2, none⟩ = some (.float .f64 (fl C1)) := cell_block hBc
            have p3 : wr.cell? ⟨B, 3, none⟩ = some (.float .f64 (fl D1)) := cell_block hBc
            have hkc : (k : Int) < 40 := by omega
            have HX : Hid (B3 w wr es n k ch ∧ NodeAt wr cb (leafN es m q q) ∧ I4.mk A1 B1 C1 D1 = bdTo es m (q - 1)) := ⟨hB, hN, hI1⟩
            have hBR : B ≠ w.heap.size + 1 := by
              have h1 := hB.root.lt
              have h2 := HB.out.root.lt
              have := HBe.out
              omega
            clear hcw hB hN hI1 hc2 hBc
            go_upto_region 22 with fail
            go_region
            all_goals go_wp2_with fail
            have hmk := HM.out
            have hqk := HQ.out
            have hN3 : NodeAt wr cb (leafN es (7 * k) (cnt n k) (cnt n k)) := by rw [← hmk, ← hqk]; exact HX.out.2.1
            have hr3 : I4.mk A1 B1 C1 D1 = bdOf es n k := by rw [HX.out.2.2, hmk, hqk]; rfl
            refine ⟨⟨k + 1, m + 7, upd ch k cb, by omega, by omega, by simp, by simp, ?_⟩, by simp [intOf]; omega⟩
            exact (HX.out.1.put hk40 hN3 (by have := HBe.out; have := HB.out.root.lt; omega) hr3).far ((Chg.refl _ _).drew)
      · have hkn : k = cN n := by unfold cN; omega
        subst hkn
        have hlc : ¬ (m : Int) < (n : Int) := by omega
        clear hm hlt hmn HM
        obtain ⟨cc, hcc⟩ : ∃ cc, cc = cN n := ⟨_, rfl⟩
        have hc40 : cc ≤ 40 := by rw [hcc]; unfold cN; omega
        have hc40' : (cc : Int) ≤ 40 := by omega
        rw [← hcc] at HB ⊢
        have HCC : Hid (cc = cN n) := hcc
        have hu := hB.root.usedc
        have hfz := hB.root.frz
        have HSt : Hid (Calls Yba.prog 7 #[.pointer (some ⟨w.heap.size + 1, 3, none⟩), .int .i32 cc] wr fun e w' => e = .returned (.tuple #[]) ∧ w' = wr.setCell ⟨w.heap.size + 1, 3, none⟩ (.int .i32 cc)) := store_any (w.heap.size + 1) 3 cc _ wr hu (hfz 3)
        have s1 : wr.cell? ⟨w.heap.size, 1, none⟩ = some (.pointer none) := cell_block hB.s
        have s2 : wr.cell? ⟨w.heap.size, 2, none⟩ = some (.int .i64 0) := cell_block hB.s
        have s3 : wr.cell? ⟨w.heap.size, 3, none⟩ = some (.int .i64 0) := cell_block hB.s
        have sf : ∀ o, wr.frozen? ⟨w.heap.size, o, none⟩ = false := fun o => frozen_block hB.s
        clear hB hcc hu hfz
        go_upto_region 29 with (go_at_call 7; refine HSt.out.mono ?_; rintro e w4 ⟨rfl, rfl⟩)
        obtain ⟨w5, hw5⟩ : ∃ w5, w5 = (((wr.setCell ⟨w.heap.size + 1, 3, none⟩ (.int .i32 cc)).setCell ⟨w.heap.size, 1, none⟩ (.pointer (some ⟨w.heap.size + 1, 0, none⟩))).setCell ⟨w.heap.size, 2, none⟩ (.int .i64 1)).setCell ⟨w.heap.size, 3, none⟩ (.int .i64 n) := ⟨_, rfl⟩
        rw [← hw5]
        have hc5 : Chg (fun j => j = w.heap.size) (wr.setCell ⟨w.heap.size + 1, 3, none⟩ (.int .i32 cc)) w5 := by
          rw [hw5]
          exact (((Chg.refl (fun j => j = w.heap.size) _).setCell (p := ⟨w.heap.size, 1, none⟩) (.inl rfl) _).setCell (p := ⟨w.heap.size, 2, none⟩) (.inl rfl) _).setCell (p := ⟨w.heap.size, 3, none⟩) (.inl rfl) _
        have hcu : Chg (fun j => j = w.heap.size + 1) wr (wr.setCell ⟨w.heap.size + 1, 3, none⟩ (.int .i32 cc)) := (Chg.refl (fun j => j = w.heap.size + 1) wr).setCell (p := ⟨w.heap.size + 1, 3, none⟩) (.inl rfl) _
        have hT5 : Tree ⟨n, es, bdOf es n, px, py, 0⟩ (w.heap.size + 1) ch w5 := by
          refine ⟨?_, fun j hj => ?_⟩
          · have h1 := (HB.out.root.setUsed (cc : Int)).chg hc5 (by omega)
            rw [HCC.out] at h1
            exact h1
          · have h1 := HB.out.kids j (by rw [HCC.out]; exact cN_lt.2 hj)
            exact (h1.1.chg hcu (by omega)).chg hc5 (by omega)
        have hl5 : Below w.heap.size w w5 := by
          rw [hw5]
          exact (((HB.out.low.setCell (by simp) _).setCell (by simp) _).setCell (by simp) _).setCell (by simp) _
        have hS4 : (wr.setCell ⟨w.heap.size + 1, 3, none⟩ (.int .i32 cc)).heap[w.heap.size]? = some (.cells #[.int .u64 0, .pointer none, .int .i64 0, .int .i64 0, .pointer none] 28) := (hcu.block _ (Array.getElem?_eq_some_iff.1 HB.out.s).1 (by omega)).trans HB.out.s
        have hS5 : w5.heap[w.heap.size]? = some (.cells #[.int .u64 0, .pointer (some ⟨w.heap.size + 1, 0, none⟩), .int .i64 1, .int .i64 n, .pointer none] 28) := by
          rw [hw5]
          exact heap_set_same _ _ _ _ (heap_set_same _ _ _ _ (heap_set_same _ _ _ _ hS4))
        have HT5 : Hid (Tree ⟨n, es, bdOf es n, px, py, 0⟩ (w.heap.size + 1) ch w5 ∧ Below w.heap.size w w5 ∧ w5.heap[w.heap.size]? = some (.cells #[.int .u64 0, .pointer (some ⟨w.heap.size + 1, 0, none⟩), .int .i64 1, .int .i64 n, .pointer none] 28)) := ⟨hT5, hl5, hS5⟩
        clear hw5 hc5 hcu hT5 hl5 hS4 hS5 s1 s2 s3 sf HSt
        obtain ⟨st, hst⟩ : ∃ st : Nat, (wrap64 ks).tmod ((n : Int) + 2) = (st : Int) := by
          refine ⟨((wrap64 ks).tmod ((n : Int) + 2)).toNat, ?_⟩
          have hw : wrap64 ks = ks := by
            have := HP.out.2.2
            unfold wrap64
            omega
          rw [hw]
          have := Int.tmod_nonneg ((n : Int) + 2) HP.out.2.2.1
          omega
        have HSt : Hid ((wrap64 ks).tmod ((n : Int) + 2) = (st : Int)) := hst
        clear hst
        go_upto_region 31 with fail
        have hfx : floatOfInt .f64 px = fl px := rfl
        have hfy : floatOfInt .f64 py = fl py := rfl
        rw [HSt.out, hfx, hfy]
        clear hfx hfy
        have HWk : Hid (Calls Yba.prog 8 #[.agg #[.int .u64 0, .pointer (some ⟨w.heap.size + 1, 0, none⟩), .int .i64 1, .int .i64 n, .pointer none], .agg #[.float .f64 (fl px), .float .f64 (fl py)], .nilFunc, .func (.func 9) #[] #[.pointer (some ⟨w5.heap.size + 1 + 1, 0, none⟩), .pointer (some ⟨w5.heap.size + 1, 0, none⟩)]]
          (((w5.alloc (.cells #[.float .f64 (fl px), .float .f64 (fl py)] 44)).alloc (.cells #[.int .i64 st] 3)).alloc (.cells #[.slice none 0 0] 63)) fun e w' => e = .returned (.tuple #[]) ∧
          ∃ rs gv base, Got ⟨n, es, bdOf es n, px, py, st⟩ rs ∧ Acc w' base ⟨w5.heap.size + 1 + 1, 0, none⟩ 66 6 gv rs.length (nb3 ⟨n, es, bdOf es n, px, py, st⟩ rs) ∧ Chg (fun j => j = w5.heap.size + 1 + 1) (((w5.alloc (.cells #[.float .f64 (fl px), .float .f64 (fl py)] 44)).alloc (.cells #[.int .i64 st] 3)).alloc (.cells #[.slice none 0 0] 63)) w') :=
          walk3_call ⟨n, es, bdOf es n, px, py, st⟩ (w.heap.size + 1) ch w5 1 n ⟨HP.out.1, HP.out.2.1, fun k hk => (HE.out.2 k hk).1, bdOf_ok fun k hk => (HE.out.2 k hk).1⟩ hn ⟨HT5.out.1.root, HT5.out.1.kids⟩
        obtain ⟨w6, hw6⟩ : ∃ w6, w6 = ((w5.alloc (.cells #[.float .f64 (fl px), .float .f64 (fl py)] 44)).alloc (.cells #[.int .i64 st] 3)).alloc (.cells #[.slice none 0 0] 63) := ⟨_, rfl⟩
        have hc6 : Chg (fun _ => False) w5 w6 := by rw [hw6]; exact (((Chg.refl _ w5).alloc _).alloc _).alloc _
        have hs6 : w6.heap.size = w5.heap.size + 1 + 1 + 1 := by rw [hw6]; simp
        have hT6 : w6.heap[w5.heap.size + 1]? = some (.cells #[.int .i64 st] 3) := by
          have := heap_alloc_new (w5.alloc (.cells #[.float .f64 (fl px), .float .f64 (fl py)] 44)) (.cells #[.int .i64 st] 3)
          rw [size_alloc] at this
          rw [hw6]; exact (Below.heap_alloc _ _ _ (by simp)).trans this
        have hP6 : w6.heap[w5.heap.size]? = some (.cells #[.float .f64 (fl px), .float .f64 (fl py)] 44) := by
          rw [hw6]; exact (Below.heap_alloc _ _ _ (by simp; omega)).trans ((Below.heap_alloc _ _ _ (by simp)).trans (heap_alloc_new w5 _))
        have hS6 := (hc6.block _ (Array.getElem?_eq_some_iff.1 HT5.out.2.2).1 id).trans HT5.out.2.2
        have k0 : w6.cell? ⟨w.heap.size, 0, none⟩ = some (.int .u64 0) := cell_block hS6
        have k1 : w6.cell? ⟨w.heap.size, 1, none⟩ = some (.pointer (some ⟨w.heap.size + 1, 0, none⟩)) := cell_block hS6
        have k2 : w6.cell? ⟨w.heap.size, 2, none⟩ = some (.int .i64 1) := cell_block hS6
        have k3 : w6.cell? ⟨w.heap.size, 3, none⟩ = some (.int .i64 n) := cell_block hS6
        have k4 : w6.cell? ⟨w.heap.size, 4, none⟩ = some (.pointer none) := cell_block hS6
        have q0 : w6.cell? ⟨w5.heap.size, 0, none⟩ = some (.float .f64 (fl px)) := cell_block hP6
        have q1 : w6.cell? ⟨w5.heap.size, 1, none⟩ = some (.float .f64 (fl py)) := cell_block hP6
        have t0 : w6.cell? ⟨w5.heap.size + 1, 0, none⟩ = some (.int .i64 st) := cell_block hT6
        rw [← hw6] at HWk
        have HL6 : Hid (Below w.heap.size w w6 ∧ w6.heap.size = w5.heap.size + 1 + 1 + 1) := ⟨Below.chg HT5.out.2.1 hc6 (fun _ f => f.elim) HT5.out.2.1.size, hs6⟩
        clear hc6 hs6 hT6 hP6 hS6
        go_upto_region 32 with fail
        rw [← hw6]
        have hw5s : w.heap.size ≤ w5.heap.size := HT5.out.2.1.size
        clear hw6 HT5
        go_upto_region 33 with (
          go_at_call 8
          refine HWk.out.mono ?_
          rintro e w7 ⟨rfl, rs, gv, base, hgot, hacc, hc7⟩)
        obtain ⟨PB, hPB⟩ : ∃ PB, PB = w5.heap.size := ⟨_, rfl⟩
        have hL6 := HL6.out
        rw [← hPB] at hacc hc7 q0 q1 t0 hL6 hw5s ⊢
        clear hPB HL6 HWk k0 k1 k2 k3 k4
        obtain ⟨P, hP⟩ : ∃ P : Px, P = ⟨n, es, bdOf es n, px, py, st⟩ := ⟨_, rfl⟩
        rw [← hP] at hgot hacc
        have HPP : Hid (P = ⟨n, es, bdOf es n, px, py, st⟩) := hP
        have hPn : P.n = n := by rw [hP]
        have hPs : P.stop = st := by rw [hP]
        have hlen := hgot.len
        rw [hPn, hPs] at hlen
        obtain ⟨pg, cg, rfl⟩ := own_slice hacc.own
        obtain ⟨Ln, hLn⟩ : ∃ Ln, Ln = rs.length := ⟨_, rfl⟩
        rw [← hLn] at hlen hacc
        have hL0 : 0 < Ln := by
          by_cases hd : st ≠ 0 ∧ st < n
          · have := hlen.1 hd; omega
          · have := hlen.2 hd; omega
        have hLn' : Ln ≤ n := by
          by_cases hd : st ≠ 0 ∧ st < n
          · have := hlen.1 hd; omega
          · have := hlen.2 hd; omega
        obtain ⟨gg, _, hpe, _, _⟩ := hacc.own.form hL0
        cases hpe
        have hgc := hacc.cell
        have hPl : PB < w6.heap.size := by omega
        have q0' := (hc7.cell (p := ⟨PB, 0, none⟩) hPl (show ¬ PB = PB + 1 + 1 by omega)).trans q0
        have q1' := (hc7.cell (p := ⟨PB, 1, none⟩) hPl (show ¬ PB = PB + 1 + 1 by omega)).trans q1
        have t0' := (hc7.cell (p := ⟨PB + 1, 0, none⟩) (show PB + 1 < w6.heap.size by omega) (show ¬ PB + 1 = PB + 1 + 1 by omega)).trans t0
        have hw7l : PB + 1 + 1 + 1 ≤ w7.heap.size := by have := hc7.size; omega
        have hB7 : Below w.heap.size w w7 := ⟨hc7.os.trans hL6.1.os, hc7.tape.trans hL6.1.tape, hc7.output.trans hL6.1.output, Nat.le_trans hL6.1.size hc7.size, fun k hk => (hc7.block k (Nat.lt_of_lt_of_le hk hL6.1.size) (show ¬ k = PB + 1 + 1 by omega)).trans (hL6.1.block k hk)⟩
        have HM : Hid (Got P rs ∧ Acc w7 base ⟨PB + 1 + 1, 0, none⟩ 66 6 (.slice (some ⟨gg, 0, none⟩) Ln cg) Ln (nb3 P rs) ∧ Below w.heap.size w w7 ∧ Ln = rs.length ∧ EsAt w7 eb off n es) := ⟨hgot, hacc, hB7, hLn, HE.out.below HE.out.1 hB7⟩
        have HLen : Hid ((st ≠ 0 ∧ st < n → Ln = st) ∧ (¬(st ≠ 0 ∧ st < n) → Ln = n)) := hlen
        clear hgot hacc hB7 hlen hc7 q0 q1 t0 hL6 hP hPn hPs hLn
        go_upto_region 34 with fail
        go_cut [151] from 144 (fun v wc => v = .bool (decide (st ≠ 0 ∧ st < n)) ∧ wc = w7)
        case first =>
          by_cases h1 : st = 0
          · subst h1
            go_wp2_with fail
            go_meet
            case rel => exact ⟨rfl, rfl⟩
          · have h1c : ¬ (st : Int) = 0 := by omega
            have h1d : ((st : Int) != 0) = true := by simp; omega
            by_cases h2 : st < n
            · have h2c : (st : Int) < (n : Int) := by omega
              go_wp2_with fail
              go_meet
              case rel => exact ⟨by simp [h1, h2], rfl⟩
            · have h2c : ¬ (st : Int) < (n : Int) := by omega
              go_wp2_with fail
              go_meet
              case rel => exact ⟨by simp [h2], rfl⟩
        case rest =>
          obtain ⟨rfl, hw⟩ := hcut
          obtain rfl := hw.symm
          go_upto_if 151 with fail
          go_cut [22] from 144 (fun v wc => v = .int .i64 Ln ∧ wc = w7)
          case first =>
            by_cases hd : st ≠ 0 ∧ st < n
            · have hdd : decide (st ≠ 0 ∧ st < n) = true := decide_eq_true hd
              have hl := HLen.out.1 hd
              have HLx : Hid (Ln = st) := hl
              clear hl hd
              rw [hdd]
              go_wp2_with fail
              go_meet
              case rel => exact ⟨by rw [HLx.out], rfl⟩
            · have hdd : decide (st ≠ 0 ∧ st < n) = false := decide_eq_false hd
              have hl := HLen.out.2 hd
              have HLx : Hid (Ln = n) := hl
              clear hl hd
              rw [hdd]
              go_wp2_with fail
              go_meet
              case rel => exact ⟨by rw [HLx.out], rfl⟩
          case rest =>
            obtain ⟨rfl, hw⟩ := hcut
            obtain rfl := hw.symm
            clear HLen
            have hGl : PB + 1 + 1 < w7.heap.size := by omega
            have hmk : ∀ wx : World, (Instr.makeSlice 68 (.int .i64 n) (.int .i64 n)).run Yba.prog wx = .ok (.slice (some ⟨wx.heap.size, 0, none⟩) n n) (wx.alloc (.cells (madeCells #[.bool false] n) 4)) := fun wx => make4 n (by omega) wx
            have HQ : Hid (Chg (fun _ => False) w7 (w7.alloc (.cells (madeCells #[.bool false] n) 4))) := (Chg.refl _ w7).alloc _
            have hgc2 := (HQ.out.cell (p := ⟨PB + 1 + 1, 0, none⟩) hGl id).trans hgc
            go_wp2_with fail
            clear hmk hgc2
            go_loopw [161] (fun i wr => ∃ t : Nat, t ≤ Ln ∧ i = .int .i64 t ∧ Chg (fun j => j = w7.heap.size) (w7.alloc (.cells (madeCells #[.bool false] n) 4)) wr ∧ ∀ j, j < n → wr.cell? ⟨w7.heap.size, j, none⟩ = some (.bool (decide (j ∈ rs.take t))) ∧ wr.frozen? ⟨w7.heap.size, j, none⟩ = false) (fun i _ => Ln - (intOf i).toNat)
            case atStart =>
              refine ⟨0, Nat.zero_le _, rfl, Chg.refl _ _, fun j hj => ⟨?_, frozen_block (heap_alloc_new w7 _)⟩⟩
              rw [cell_block (heap_alloc_new w7 _), made_at j n hj]; simp
            case round =>
              obtain ⟨t, ht, rfl, hc, hseen⟩ := hrel
              by_cases hlt : t < Ln
              · obtain ⟨a, ha, han, hat, hprev⟩ := got_at HM.out.1 t (by rw [← HM.out.2.2.2.1]; exact hlt)
                rw [HPP.out] at han
                simp only at han
                have hcw : Chg (fun _ => False) w7 wr := HQ.out.step hc (fun j hj => .inr (by omega))
                have hok := (HM.out.2.2.2.2.2 a han).1
                obtain ⟨dd, hdd⟩ : ∃ dd, dd = dk px py (es a).i4 := ⟨_, rfl⟩
                have hfin : fin dd = true := by rw [hdd]; exact fin_dk HP.out.1 HP.out.2.1 (En.i4_ok hok)
                have hlc : (t : Int) < (Ln : Int) := by omega
                have hac : (a : Int) < (n : Int) := by omega
                have ha0 : ¬ (a : Int) < 0 := by omega
                have han' : ¬ (n : Int) ≤ (a : Int) := by omega
                have hzc : ∀ j, j < 6 → wr.cell? ⟨gg, t * 6 + j, none⟩ = (nb (es a).rect (a : Nat) dd)[j]? := fun j hj => by
                  have h1 := nb3_get P rs t j hj a ha
                  have h2 := (own_chg HM.out.2.1.own hcw (fun _ _ f => f)).cellAt (t * 6 + j) (by omega)
                  rw [h2, h1, HPP.out, hdd]
                have z0 := hzc 0 (by omega)
                have z1 := hzc 1 (by omega)
                have z2 := hzc 2 (by omega)
                have z3 := hzc 3 (by omega)
                have z4 := hzc 4 (by omega)
                have z5 := hzc 5 (by omega)
                simp only [nb, Nat.add_zero, List.getElem?_cons_zero, List.getElem?_cons_succ] at z0 z1 z2 z3 z4 z5
                have hsl : w7.heap.size < wr.heap.size := Nat.lt_of_lt_of_le (by simp) hc.size
                have hsa : wr.cell? ⟨w7.heap.size, a, none⟩ = some (.bool false) := by rw [(hseen a han).1, decide_eq_false hat]
                have hsf := (hseen a han).2
                have hsa2 : (wr.alloc (.cells #[.float .f64 (es a).rect.a, .float .f64 (es a).rect.b, .float .f64 (es a).rect.c, .float .f64 (es a).rect.d, .int .i64 a, .float .f64 dd] 66)).cell? ⟨w7.heap.size, a, none⟩ = some (.bool false) := (((Chg.refl (fun _ => False) wr).alloc _).cell (p := ⟨w7.heap.size, a, none⟩) hsl id).trans hsa
                have hsf2 : (wr.alloc (.cells #[.float .f64 (es a).rect.a, .float .f64 (es a).rect.b, .float .f64 (es a).rect.c, .float .f64 (es a).rect.d, .int .i64 a, .float .f64 dd] 66)).frozen? ⟨w7.heap.size, a, none⟩ = false := (((Chg.refl (fun _ => False) wr).alloc _).frozen (p := ⟨w7.heap.size, a, none⟩) hsl id).trans hsf
                have HZ : Hid ((∀ j, j < n → wr.cell? ⟨w7.heap.size, j, none⟩ = some (.bool (decide (j ∈ rs.take t))) ∧ wr.frozen? ⟨w7.heap.size, j, none⟩ = false) ∧ Chg (fun j => j = w7.heap.size) (w7.alloc (.cells (madeCells #[.bool false] n) 4)) wr ∧ Chg (fun _ => False) w7 wr) := ⟨hseen, hc, hcw⟩
                have HDD : Hid (dd = dk px py (es a).i4 ∧ fin dd = true ∧ (0 < t → ∃ b, rs[t - 1]? = some b ∧ b < P.n ∧ P.kd b ≤ P.kd a)) := ⟨hdd, hfin, hprev⟩
                clear hseen hc hcw hzc hdd hfin hprev
                go_upto_region 45 with fail
                obtain ⟨w8, hw8⟩ : ∃ w8, w8 = (wr.setCell ⟨w7.heap.size, a, none⟩ (.bool true)).alloc (.cells #[.float .f64 (es a).rect.a, .float .f64 (es a).rect.b, .float .f64 (es a).rect.c, .float .f64 (es a).rect.d, .int .i64 a, .float .f64 dd] 66) := ⟨_, rfl⟩
                rw [← hw8]
                have hc8 : Chg (fun j => j = w7.heap.size) wr w8 := by rw [hw8]; exact ((Chg.refl (fun j => j = w7.heap.size) wr).setCell (p := ⟨w7.heap.size, a, none⟩) (.inl rfl) _).alloc _
                have hB8 : w8.heap[wr.heap.size]? = some (.cells #[.float .f64 (es a).rect.a, .float .f64 (es a).rect.b, .float .f64 (es a).rect.c, .float .f64 (es a).rect.d, .int .i64 a, .float .f64 dd] 66) := by
                  have := heap_alloc_new (wr.setCell ⟨w7.heap.size, a, none⟩ (.bool true)) (.cells #[.float .f64 (es a).rect.a, .float .f64 (es a).rect.b, .float .f64 (es a).rect.c, .float .f64 (es a).rect.d, .int .i64 a, .float .f64 dd] 66)
                  rw [hw8]; rw [size_set] at this; exact this
                have hs8 : ∀ j, j < n → w8.cell? ⟨w7.heap.size, j, none⟩ = some (.bool (decide (j ∈ rs.take (t + 1)))) ∧ w8.frozen? ⟨w7.heap.size, j, none⟩ = false := fun j hj => by
                  have et : rs.take (t + 1) = rs.take t ++ [a] := by rw [List.take_add_one, ha]; rfl
                  have hca : Chg (fun _ => False) (wr.setCell ⟨w7.heap.size, a, none⟩ (.bool true)) w8 := by rw [hw8]; exact (Chg.refl _ _).alloc _
                  have hsl2 : w7.heap.size < (wr.setCell ⟨w7.heap.size, a, none⟩ (.bool true)).heap.size := by rw [size_set]; exact hsl
                  refine ⟨?_, by rw [hca.frozen (p := ⟨w7.heap.size, j, none⟩) hsl2 id, World.frozen?_setCell]; exact (HZ.out.1 j hj).2⟩
                  rw [hca.cell (p := ⟨w7.heap.size, j, none⟩) hsl2 id]
                  by_cases e : j = a
                  · subst e
                    rw [et, World.cell?_setCell_same' _ _ _ (by rw [(HZ.out.1 _ hj).1]; rfl)]
                    simp
                  · rw [et, World.cell?_setCell_other _ _ _ _ (by intro h; apply e; cases h; rfl), (HZ.out.1 j hj).1]
                    simp [e]
                have hcw8 : Chg (fun _ => False) w7 w8 := HZ.out.2.2.step hc8 (fun j hj => .inr (by omega))
                have HZ8 : Hid ((∀ j, j < n → w8.cell? ⟨w7.heap.size, j, none⟩ = some (.bool (decide (j ∈ rs.take (t + 1)))) ∧ w8.frozen? ⟨w7.heap.size, j, none⟩ = false) ∧ Chg (fun j => j = w7.heap.size) (w7.alloc (.cells (madeCells #[.bool false] n) 4)) w8 ∧ Chg (fun _ => False) w7 w8) := ⟨hs8, HZ.out.2.1.trans hc8, hcw8⟩
                have b4 : w8.cell? ⟨wr.heap.size, 4, none⟩ = some (.int .i64 a) := cell_block hB8
                obtain ⟨_, e0, e1, e2, e3, e4⟩ := (HM.out.2.2.2.2.chg hcw8 id).2 a han
                have HR : Hid (∀ wx, Calls Yba.prog 10 #[.agg #[.int .i8 (es a).x, .int .i8 (es a).y, .int .u8 (es a).wd, .int .u8 (es a).ht, .int .i8 (es a).d]] wx fun r w' =>
                  r = .returned (.agg #[.float .f64 (es a).rect.a, .float .f64 (es a).rect.b, .float .f64 (es a).rect.c, .float .f64 (es a).rect.d]) ∧ Below wx.heap.size wx w') := fun wx => rect_any (es a) wx hok
                have hqn : ∀ wx, (binOp .neq 46 (.agg #[.float .f64 (es a).rect.a, .float .f64 (es a).rect.b, .float .f64 (es a).rect.c, .float .f64 (es a).rect.d]) (.agg #[.float .f64 (es a).rect.a, .float .f64 (es a).rect.b, .float .f64 (es a).rect.c, .float .f64 (es a).rect.d])).run Yba.prog wx = .ok (.bool false) wx := rect_neq' hok
                have HB8 : Hid (w8.heap[wr.heap.size]? = some (.cells #[.float .f64 (es a).rect.a, .float .f64 (es a).rect.b, .float .f64 (es a).rect.c, .float .f64 (es a).rect.d, .int .i64 a, .float .f64 dd] 66)) := hB8
                clear hcw8 hs8 HZ hB8 hc8 hw8 hsa2 hsf2 hsa hsf z0 z1 z2 z3 z4 z5
                go_upto_region 46 with (go_at_call 10; refine (HR.out _).mono ?_; rintro e w9 ⟨rfl, hb9⟩)
                obtain ⟨w10, hw10⟩ : ∃ w10, w10 = w9.alloc (.cells #[.float .f64 (es a).rect.a, .float .f64 (es a).rect.b, .float .f64 (es a).rect.c, .float .f64 (es a).rect.d] 46) := ⟨_, rfl⟩
                rw [← hw10]
                have hc10 : Chg (fun _ => False) w8 w10 := by rw [hw10]; exact (Chg.of_below hb9 (fun _ => False)).alloc _
                have hRB : w10.heap[w9.heap.size]? = some (.cells #[.float .f64 (es a).rect.a, .float .f64 (es a).rect.b, .float .f64 (es a).rect.c, .float .f64 (es a).rect.d] 46) := by rw [hw10]; exact heap_alloc_new w9 _
                have hB10 := (hc10.block _ (Array.getElem?_eq_some_iff.1 HB8.out).1 id).trans HB8.out
                have hcw10 := HZ8.out.2.2.trans hc10
                have b0 : w10.cell? ⟨wr.heap.size, 0, none⟩ = some (.float .f64 (es a).rect.a) := cell_block hB10
                have b1 : w10.cell? ⟨wr.heap.size, 1, none⟩ = some (.float .f64 (es a).rect.b) := cell_block hB10
                have b2 : w10.cell? ⟨wr.heap.size, 2, none⟩ = some (.float .f64 (es a).rect.c) := cell_block hB10
                have b3 : w10.cell? ⟨wr.heap.size, 3, none⟩ = some (.float .f64 (es a).rect.d) := cell_block hB10
                have b5 : w10.cell? ⟨wr.heap.size, 5, none⟩ = some (.float .f64 dd) := cell_block hB10
                have r0 : w10.cell? ⟨w9.heap.size, 0, none⟩ = some (.float .f64 (es a).rect.a) := cell_block hRB
                have r1 : w10.cell? ⟨w9.heap.size, 1, none⟩ = some (.float .f64 (es a).rect.b) := cell_block hRB
                have r2 : w10.cell? ⟨w9.heap.size, 2, none⟩ = some (.float .f64 (es a).rect.c) := cell_block hRB
                have r3 : w10.cell? ⟨w9.heap.size, 3, none⟩ = some (.float .f64 (es a).rect.d) := cell_block hRB
                have hPl7 : PB < w7.heap.size := by omega
                have pp0 := (hcw10.cell (p := ⟨PB, 0, none⟩) hPl7 id).trans q0'
                have pp1 := (hcw10.cell (p := ⟨PB, 1, none⟩) hPl7 id).trans q1'
                have hrbl : w9.heap.size < w10.heap.size := (Array.getElem?_eq_some_iff.1 hRB).1
                have hgbl : wr.heap.size < w10.heap.size := (Array.getElem?_eq_some_iff.1 hB10).1
                have hpbl : PB < w10.heap.size := Nat.lt_of_lt_of_le hPl7 hcw10.size
                have HC10 : Hid (Chg (fun _ => False) w8 w10 ∧ Chg (fun _ => False) w7 w10) := ⟨hc10, hcw10⟩
                have HD : Hid (∀ wx, Calls Yba.prog 11 #[.agg #[.float .f64 (es a).rect.a, .float .f64 (es a).rect.b, .float .f64 (es a).rect.c, .float .f64 (es a).rect.d], .agg #[.float .f64 (fl px), .float .f64 (fl py)]] wx fun e w' => e = .returned (.float .f64 dd) ∧ Below wx.heap.size wx w') := fun wx => by
                  rw [HDD.out.1]; exact distance_any (es a).i4 px py wx (En.i4_ok hok) HP.out.1 HP.out.2.1
                have hfo := order_self HDD.out.2.1
                clear hc10 hRB hB10 hcw10 hw10 hb9 HB8 b4 e0 e1 e2 e3 e4 HR
                go_upto_region 48 with fail
                clear hqn b0 b1 b2 b3
                go_region_held (fun wx => wx.cell? ⟨wr.heap.size, 5, none⟩ = some (.float .f64 dd) ∧ wx.cell? ⟨w9.heap.size, 0, none⟩ = some (.float .f64 (es a).rect.a) ∧ wx.cell? ⟨w9.heap.size, 1, none⟩ = some (.float .f64 (es a).rect.b) ∧ wx.cell? ⟨w9.heap.size, 2, none⟩ = some (.float .f64 (es a).rect.c) ∧ wx.cell? ⟨w9.heap.size, 3, none⟩ = some (.float .f64 (es a).rect.d) ∧ wx.cell? ⟨PB, 0, none⟩ = some (.float .f64 (fl px)) ∧ wx.cell? ⟨PB, 1, none⟩ = some (.float .f64 (fl py)))
                  (go_keep)
                  (first | (go_at_call 11; refine (HD.out _).mono ?_; rintro e w11 ⟨rfl, hb11⟩
                            have u5 := (hb11.cell (p := ⟨wr.heap.size, 5, none⟩) hgbl).trans b5
                            have v0 := (hb11.cell (p := ⟨w9.heap.size, 0, none⟩) hrbl).trans r0
                            have v1 := (hb11.cell (p := ⟨w9.heap.size, 1, none⟩) hrbl).trans r1
                            have v2 := (hb11.cell (p := ⟨w9.heap.size, 2, none⟩) hrbl).trans r2
                            have v3 := (hb11.cell (p := ⟨w9.heap.size, 3, none⟩) hrbl).trans r3
                            have x0 := (hb11.cell (p := ⟨PB, 0, none⟩) hpbl).trans pp0
                            have x1 := (hb11.cell (p := ⟨PB, 1, none⟩) hpbl).trans pp1))
                have hc11 : Chg (fun _ => False) w10 w11 := Chg.step ((Chg.refl _ w10).drewN _) (Chg.of_below hb11 (fun _ => False)) (fun _ f => f.elim)
                have HC11 : Hid (Chg (fun _ => False) w8 w11 ∧ Chg (fun _ => False) w7 w11) := ⟨HC10.out.1.trans hc11, HC10.out.2.trans hc11⟩
                have gg0 := (HC11.out.2.cell (p := ⟨PB + 1 + 1, 0, none⟩) hGl id).trans hgc
                have hw8l : w7.heap.size < w8.heap.size := Nat.lt_of_lt_of_le (by simp) HZ8.out.2.1.size
                have HF : Hid (∀ q, Chg (fun j => j = w7.heap.size) (w7.alloc (.cells (madeCells #[.bool false] n) 4)) (w11.drewN q) ∧ ∀ j, j < n → (w11.drewN q).cell? ⟨w7.heap.size, j, none⟩ = some (.bool (decide (j ∈ rs.take (t + 1)))) ∧ (w11.drewN q).frozen? ⟨w7.heap.size, j, none⟩ = false) := fun q =>
                  ⟨(HZ8.out.2.1.trans (HC11.out.1.mono fun _ f => f.elim)).drewN q, fun j hj => ⟨((HC11.out.1.drewN q).cell (p := ⟨w7.heap.size, j, none⟩) hw8l id).trans (HZ8.out.1 j hj).1, ((HC11.out.1.drewN q).frozen (p := ⟨w7.heap.size, j, none⟩) hw8l id).trans (HZ8.out.1 j hj).2⟩⟩
                clear hb11 hc11 b5 r0 r1 r2 r3 pp0 pp1 v0 v1 v2 v3 x0 x1 HD hfo
                by_cases ht0 : 0 < t
                · obtain ⟨b, hb, hbl, hbk⟩ := HDD.out.2.2 ht0
                  rw [HPP.out] at hbl hbk
                  simp only at hbl
                  have hokb := (HM.out.2.2.2.2.2 b hbl).1
                  obtain ⟨m1, hm1e⟩ : ∃ m, m = t - 1 := ⟨_, rfl⟩
                  rw [← hm1e] at hb
                  obtain ⟨db, hdb⟩ : ∃ db, db = dk px py (es b).i4 := ⟨_, rfl⟩
                  have hzc : w11.cell? ⟨gg, m1 * 6 + 5, none⟩ = some (.float .f64 db) := by
                    have h1 := nb3_get P rs m1 5 (by omega) b hb
                    have h2 := (own_chg HM.out.2.1.own HC11.out.2 (fun _ _ f => f)).cellAt (m1 * 6 + 5) (by omega)
                    rw [h2, h1, HPP.out, hdb]; rfl
                  have hgo : (FloatKind.f64.format.order db dd == some .gt) = false := by
                    refine not_gt (by rw [hdb]; exact fin_dk HP.out.1 HP.out.2.1 (En.i4_ok hokb)) HDD.out.2.1 ?_
                    rw [hdb, HDD.out.1]; exact hbk
                  have hmt : (t : Int) - 1 = (m1 : Int) := by omega
                  have hm1 : (m1 : Int) < (Ln : Int) := by omega
                  have hwrp : IntKind.i64.wrap (m1 : Int) = (m1 : Int) := by simp [IntKind.wrap, IntKind.bits, IntKind.signed]; omega
                  have hm5 : ¬ (Ln : Int) ≤ (m1 : Int) := by omega
                  have hm6 : ((m1 : Int) < 0) = False := eq_false (by omega)
                  have ht1 : decide ((0 : Int) < (t : Int)) = true := decide_eq_true (by omega)
                  have ht2 : (0 : Int) < (t : Int) := by omega
                  have ht3 : decide (0 < t) = true := decide_eq_true ht0
                  clear hb hbl hbk hokb hm1e hdb
                  go_upto_region 50 with fail
                  go_quiet (fail)
                  go_wp2_with fail
                  refine ⟨⟨t + 1, by omega, by simp, HF.out _⟩, by simp [intOf]; omega⟩
                · have ht1 : decide ((0 : Int) < (t : Int)) = false := decide_eq_false (by omega)
                  have ht2 : ¬ (0 : Int) < (t : Int) := by omega
                  have ht3 : decide (0 < t) = false := decide_eq_false ht0
                  go_upto_region 50 with fail
                  go_quiet (fail)
                  go_wp2_with fail
                  refine ⟨⟨t + 1, by omega, by simp, HF.out _⟩, by simp [intOf]; omega⟩
              · obtain rfl : Ln = t := by omega
                have HQ2 : Hid (Chg (fun j => j = w7.heap.size) (w7.alloc (.cells (madeCells #[.bool false] n) 4)) wr) := hc
                clear hc hseen
                go_wp2_with fail
                go_ret
                exact ⟨rfl, Below.chg HM.out.2.2.1 (HQ.out.step HQ2.out (fun j hj => .inr (by omega))) (fun _ f => f.elim) HM.out.2.2.1.size⟩

end Go.Proofs.Ybulkazxi
