/-
  walk by the distance to the rectangle, from a tree of two levels.
-/
import Derived.Test.YbulkazxiSt3
import Derived.Deep.LoopGhost
namespace Go.Proofs.Ybulkazxi
open Go.RowKit
attribute [local go_sem] run_store_float func_eq_nil nil_eq_nil
attribute [local go_sem ↓] Go.wp_at_zero Go.wp_at_succ

/-- The world in which the queue and the ranking stand. -/
noncomputable def begun3 (X : Tx) (w : World) (o1 o2 : Obj) : World :=
  (((w.alloc o1).alloc o2).alloc (.cells Yba.zeroCells131 131)).alloc (.cells #[.float .f64 (fl X.P.px), .float .f64 (fl X.P.py), .int .u64 0, .nilFunc, .slice none 0 0] 133)

theorem begun3_st {X : Tx} {w : World} (h : Wi X w) (o1 o2 : Obj) (g : Nat → Cd) : St3 X w (begun3 X w o1 o2) [] [] 0 g (.slice none 0 0) := by
  have hc : Chg (fun _ => False) w (begun3 X w o1 o2) := ((((Chg.refl _ w).alloc _).alloc _).alloc _).alloc _
  have hs : (begun3 X w o1 o2).heap.size = w.heap.size + 1 + 1 + 1 + 1 := by simp [begun3]
  have hK : (begun3 X w o1 o2).heap[X.K]? = some (.cells #[.float .f64 (fl X.P.px), .float .f64 (fl X.P.py), .int .u64 0, .nilFunc, .slice none 0 0] 133) := by
    have := heap_alloc_new (((w.alloc o1).alloc o2).alloc (.cells Yba.zeroCells131 131)) (.cells #[.float .f64 (fl X.P.px), .float .f64 (fl X.P.py), .int .u64 0, .nilFunc, .slice none 0 0] 133)
    simp only [size_alloc] at this
    rw [h.k]; exact this
  have hR : (begun3 X w o1 o2).heap[X.R]? = some (.cells Yba.zeroCells131 131) := by
    have := heap_alloc_new ((w.alloc o1).alloc o2) (.cells Yba.zeroCells131 131)
    simp only [size_alloc] at this
    rw [h.r]
    exact (Below.heap_alloc _ _ _ (by simp)).trans this
  have hb : X.base ≤ (begun3 X w o1 o2).heap.size := by rw [hs, h.b]; exact Nat.le_refl _
  have hgl := h.gl; have hbb := h.b
  refine ⟨hc.mono fun _ f => f.elim, ⟨by rw [cell_block hK]; rfl, by rw [cell_block hK]; rfl, by rw [cell_block hK]; rfl, by rw [cell_block hK]; rfl, by rw [cell_block hK]; rfl, (Array.getElem?_eq_some_iff.1 hK).1⟩,
    ⟨⟨_, _, hR, room_size, fun j hj => absurd hj (Nat.not_lt_zero _)⟩, fun j _ hj => absurd hj (Nat.not_lt_zero _), fun j hj => absurd hj (Nat.not_lt_zero _)⟩, by simp [L],
    ⟨(hc.cell (p := ⟨X.G, 0, none⟩) hgl id).trans h.gc.1, (hc.frozen (p := ⟨X.G, 0, none⟩) hgl id).trans h.gc.2, ⟨by simp [nb3], .inl ⟨rfl, rfl⟩⟩, by show X.G < X.base; omega, hb⟩⟩

set_option maxRecDepth 100000 in
set_option maxHeartbeats 2000000 in
theorem walk3_any (X : Tx) (h c : Int) (w : World) (hP : Wi X w) :
    Calls Yba.prog 8 #[.agg #[.int .u64 0, .pointer (some ⟨X.N, 0, none⟩), .int .i64 h, .int .i64 c, .pointer none], .agg #[.float .f64 (fl X.P.px), .float .f64 (fl X.P.py)], .nilFunc, .func (.func 9) #[] #[.pointer (some ⟨X.G, 0, none⟩), .pointer (some ⟨X.T, 0, none⟩)]] w fun e w' => e = .returned (.tuple #[]) ∧
      ∃ rs gv, Got X.P rs ∧ Acc w' X.base ⟨X.G, 0, none⟩ 66 6 gv rs.length (nb3 X.P rs) ∧ Chg (fun j => j = X.G) w w' := by
  have HPr : Hid (Wi X w) := hP
  have er : Hid (X.R = w.heap.size + 1 + 1) := hP.r
  have ek : Hid (X.K = w.heap.size + 1 + 1 + 1) := hP.k
  clear hP
  go_enter Yba.func8, Yba.ntmps8
  go_upto_region 3 with fail
  go_cut [9] from 14 (fun kp wc => kp = .pointer (some ⟨X.K, 0, none⟩) ∧ St3 X w wc [] [] 0 (fun _ => X.cd (.inl 0)) (.slice none 0 0) ∧ wc.cell? ⟨w.heap.size, 1, none⟩ = some (.pointer (some ⟨X.N, 0, none⟩)))
  case first =>
    go_wp2_with fail
    go_meet
    case rel =>
      refine ⟨by rw [ek.out], begun3_st HPr.out _ _ _, ?_⟩
      exact (((((Chg.refl (fun _ => False) (w.alloc _)).alloc _).alloc _).alloc _).cell (p := ⟨w.heap.size, 1, none⟩) (by simp) id).trans (cell_block (heap_alloc_new w _))
  case rest =>
    obtain ⟨rfl, hS, h1⟩ := hcut
    have HRc : Hid (Calls Yba.prog 22 #[.slice (some ⟨w.heap.size + 1 + 1, 0, none⟩) 0 320, .pointer (some ⟨X.N, 0, none⟩), .pointer (some ⟨X.K, 0, none⟩)] wc.drew fun e w' =>
      e = .returned (.slice (some ⟨X.R, 0, none⟩) (cN X.P.n) 320) ∧ ∃ g', St3 X w w' [] ((List.range (cN X.P.n)).map Sum.inr) (cN X.P.n) g' (.slice none 0 0)) := by
      rw [← er.out]
      exact (hS.far (Chg.refl _ wc).drew).reachRoot HPr.out
    clear hS
    go_wp2_with fail
    go_region_with (first | (go_at_call 22; refine HRc.out.mono ?_; rintro e w1 ⟨rfl, g', hS1⟩))
    clear HRc h1
    have HW1 : Hid (St3 X w w1 [] ((List.range (cN X.P.n)).map Sum.inr) (cN X.P.n) g' (.slice none 0 0)) := hS1
    clear hS1
    go_wp2_with fail
    simp only [Act.put, List.getElem_toArray, List.getElem_cons_succ, List.getElem_cons_zero, List.setIfInBounds_toArray, List.set_cons_zero, List.set_cons_succ]
    go_loopg [10] (wt ((List.range (cN X.P.n)).map Sum.inr)) (fun gn q wr => ∃ (m : Nat) (rs : List Nat) (qs : List (Nat ⊕ Nat)) (g : Nat → Cd) (gv : Value), gn = wt qs ∧ q = .slice (some ⟨X.R, 0, none⟩) m 320 ∧ St3 X w wr rs qs m g gv ∧ P3 X.P rs qs)
    case atStart => exact ⟨cN X.P.n, [], _, g', _, rfl, rfl, HW1.out, P3.begin X.P⟩
    case round =>
      obtain ⟨m, rs, qs, g, gv, hgk, rfl, hS, hp3⟩ := hrel
      clear HW1
      have HGK : Hid (gk = wt qs) := hgk
      have HP3 : Hid (P3 X.P rs qs) := hp3
      clear hgk hp3
      by_cases hm : 0 < m
      · obtain ⟨m, rfl⟩ : ∃ m', m = m' + 1 := ⟨m - 1, by omega⟩
        have HPop : Hid (∀ o, Calls Yba.prog 23 #[.slice (some ⟨X.R, 0, none⟩) (m + 1) 320] (wr.alloc o) fun e w' => ∃ q qs' g',
          e = .returned (.tuple #[.agg #[.pointer (some ⟨(X.cd q).rb, (X.cd q).ro, none⟩), .pointer (some ⟨(X.cd q).tb, (X.cd q).to, none⟩), .float .f64 (X.cd q).ky], .slice (some ⟨X.R, 0, none⟩) m 320]) ∧
          (qs.Perm (q :: qs') ∧ ∀ b ∈ qs', X.P.kq q ≤ X.P.kq b) ∧ w'.heap[wr.heap.size]? = some o ∧
          ∀ a b c : Value, St3 X w (((w'.setCell ⟨wr.heap.size, 0, none⟩ a).setCell ⟨wr.heap.size, 1, none⟩ b).setCell ⟨wr.heap.size, 2, none⟩ c) rs qs' m g' gv) := fun o => hS.pop HPr.out HP3.out.all o
        have hml : m + 1 ≤ 280 := by
          have h1 := hS.len
          have h2 := HP3.out.few
          have h3 := HPr.out.n280
          omega
        have hrl : rs.length ≤ 1000 := by
          have h2 := HP3.out.few
          have h3 := HPr.out.n280
          omega
        have HBG : Hid (X.G < wr.heap.size ∧ gv.ownBlock ≠ some wr.heap.size) := ⟨Nat.lt_of_lt_of_le HPr.out.gl hS.chg.size, fun e => Nat.lt_irrefl _ (own_lt hS.a.own e).2⟩
        have hwz : w.heap.size ≤ wr.heap.size := hS.chg.size
        clear hS
        go_wp2_with fail
        refine (HPop.out _).mono ?_
        rintro e w2 ⟨q, qs', g2, rfl, hio, hb2, hS2⟩
        have b0 : w2.cell? ⟨wr.heap.size, 0, none⟩ = some (.pointer none) := cell_block hb2
        have b1 : w2.cell? ⟨wr.heap.size, 1, none⟩ = some (.pointer none) := cell_block hb2
        have b2 : w2.cell? ⟨wr.heap.size, 2, none⟩ = some (.float .f64 0) := cell_block hb2
        have bf : ∀ o, w2.frozen? ⟨wr.heap.size, o, none⟩ = false := fun o => frozen_block hb2
        have HS2 : Hid (∀ a b c : Value, St3 X w (((w2.setCell ⟨wr.heap.size, 0, none⟩ a).setCell ⟨wr.heap.size, 1, none⟩ b).setCell ⟨wr.heap.size, 2, none⟩ c) rs qs' m g2 gv) := hS2
        have HIO : Hid (qs.Perm (q :: qs') ∧ ∀ b ∈ qs', X.P.kq q ≤ X.P.kq b) := hio
        have hqok : okq X.P.n q := HP3.out.all q (hio.1.mem_iff.2 (List.mem_cons_self ..))
        clear HPop hS2 hio hb2
        go_upto_region 8 with fail
        obtain ⟨w3, hw3⟩ : ∃ w3, w3 = (((w2.setCell ⟨wr.heap.size, 0, none⟩ (.pointer (some ⟨(X.cd q).rb, (X.cd q).ro, none⟩))).setCell ⟨wr.heap.size, 1, none⟩ (.pointer (some ⟨(X.cd q).tb, (X.cd q).to, none⟩))).setCell ⟨wr.heap.size, 2, none⟩ (.float .f64 (X.cd q).ky)) := ⟨_, rfl⟩
        have hS3 := HS2.out (.pointer (some ⟨(X.cd q).rb, (X.cd q).ro, none⟩)) (.pointer (some ⟨(X.cd q).tb, (X.cd q).to, none⟩)) (.float .f64 (X.cd q).ky)
        rw [← hw3] at hS3 ⊢
        have k0 : w3.cell? ⟨wr.heap.size, 0, none⟩ = some (.pointer (some ⟨(X.cd q).rb, (X.cd q).ro, none⟩)) := by
          rw [hw3, World.cell?_setCell_other _ _ _ _ (by simp), World.cell?_setCell_other _ _ _ _ (by simp)]; exact World.cell?_setCell_same' _ _ _ (by rw [b0]; rfl)
        have k1 : w3.cell? ⟨wr.heap.size, 1, none⟩ = some (.pointer (some ⟨(X.cd q).tb, (X.cd q).to, none⟩)) := by
          rw [hw3, World.cell?_setCell_other _ _ _ _ (by simp)]; exact World.cell?_setCell_same' _ _ _ (by rw [World.cell?_setCell_other _ _ _ _ (by simp), b1]; rfl)
        have k2 : w3.cell? ⟨wr.heap.size, 2, none⟩ = some (.float .f64 (X.cd q).ky) := by
          rw [hw3]; exact World.cell?_setCell_same' _ _ _ (by rw [World.cell?_setCell_other _ _ _ _ (by simp), World.cell?_setCell_other _ _ _ _ (by simp), b2]; rfl)
        clear hw3 HS2 b0 b1 b2 bf
        have HS3 : Hid (St3 X w w3 rs qs' m g2 gv) := hS3
        clear hS3
        have hBs : wr.heap.size < w3.drew.heap.size := World.block_lt_of_cell? w3 ⟨wr.heap.size, 0, none⟩ k0
        have hall : ∀ q ∈ qs', okq X.P.n q := fun x hx => HP3.out.all x (HIO.out.1.mem_iff.2 (List.mem_cons_of_mem _ hx))
        have HALL : Hid (∀ q ∈ qs', okq X.P.n q) := hall
        clear hall
        cases q with
        | inr j =>
          have hj : 7 * j < X.P.n := hqok
          have kc := HS3.out.kid HPr.out hj
          simp only [Tx.cd] at k0 k1 k2
          have HRc : Hid (Calls Yba.prog 22 #[.slice (some ⟨X.R, 0, none⟩) m 320, .pointer (some ⟨X.ch j, 0, none⟩), .pointer (some ⟨X.K, 0, none⟩)] w3 fun e w' =>
            e = .returned (.slice (some ⟨X.R, 0, none⟩) (m + cnt X.P.n j) 320) ∧ ∃ g', St3 X w w' rs ((List.range (cnt X.P.n j)).map (fun i => .inl (7 * j + i)) ++ qs') (m + cnt X.P.n j) g' gv) := HS3.out.reach HPr.out hj (by omega)
          clear hqok hj
          go_wp2_with (go_at_call 22; refine HRc.out.mono ?_; rintro e w4 ⟨rfl, g4, hS4⟩; have HS4 : Hid (St3 X w w4 rs ((List.range (cnt X.P.n j)).map (fun i => .inl (7 * j + i)) ++ qs') (m + cnt X.P.n j) g4 gv) := hS4; clear hS4)
          go_roundg (wt ((List.range (cnt X.P.n j)).map (fun i => Sum.inl (7 * j + i)) ++ qs'))
          case measure => rw [HGK.out]; exact wt_opened HIO.out.1
          case rel => exact ⟨_, rs, _, g4, gv, rfl, rfl, HS4.out, HP3.out.opened HPr.out.ok HIO.out.1⟩
        | inl k =>
          have hk : k < X.P.n := hqok
          obtain ⟨r0, r1, r2, r3, r4, r5⟩ := HS3.out.slot HPr.out hk
          simp only [Tx.cd] at k0 k1 k2
          have hNG : X.ch (k / 7) ≠ X.G := HPr.out.gk (k / 7) (by omega)
          have hNl : X.ch (k / 7) < w.heap.size := (HPr.out.tree.kids (k / 7) (by omega)).lt
          have HTk : Hid (Calls Yba.prog 9 #[.agg #[.float .f64 (X.P.es k).rect.a, .float .f64 (X.P.es k).rect.b, .float .f64 (X.P.es k).rect.c, .float .f64 (X.P.es k).rect.d, .int .i64 k, .float .f64 (dk X.P.px X.P.py (X.P.es k).i4)], .pointer (some ⟨X.G, 0, none⟩), .pointer (some ⟨X.T, 0, none⟩)] w3.drew fun e w' =>
            e = .returned (.bool (decide (rs.length + 1 ≠ X.P.stop))) ∧ ∃ gv', St3 X w w' (rs ++ [k]) qs' m g2 gv' ∧ Chg (fun j => j = X.G ∨ gv.ownBlock = some j) w3.drew w') := (HS3.out.far (Chg.refl _ w3).drew).take HPr.out HALL.out hrl k
          have hBG : ¬ (wr.heap.size = X.G ∨ gv.ownBlock = some wr.heap.size) := fun f => f.elim (fun e => absurd HBG.out.1 (by omega)) HBG.out.2
          have hgo : ∀ b, gv.ownBlock = some b → X.base ≤ b := fun b hb => (own_lt HS3.out.a.own hb).1
          have hBN : ∀ o, ¬ (X.ch (k / 7) = X.G ∨ gv.ownBlock = some (X.ch (k / 7))) := fun _ f => f.elim hNG (fun e => by have := hgo _ e; have := HPr.out.b; omega)
          clear hgo hqok
          go_upto_region 10 with fail
          by_cases hst : rs.length + 1 = X.P.stop
          · have hsd : decide (rs.length + 1 ≠ X.P.stop) = false := decide_eq_false (fun f => f hst)
            have HST : Hid (rs.length + 1 = X.P.stop) := hst
            clear hst
            go_region_held (fun wx => wx.cell? ⟨wr.heap.size, 0, none⟩ = some (.pointer (some ⟨X.ch (k / 7), 6 + k % 7 * 4, none⟩)) ∧ wx.cell? ⟨wr.heap.size, 1, none⟩ = some (.pointer (some ⟨X.ch (k / 7), 166 + k % 7 * 3 + 1, none⟩)) ∧ wx.cell? ⟨wr.heap.size, 2, none⟩ = some (.float .f64 (dk X.P.px X.P.py (X.P.es k).i4)) ∧
                wx.cell? ⟨X.ch (k / 7), 6 + k % 7 * 4, none⟩ = some (.float .f64 (X.P.es k).rect.a) ∧ wx.cell? ⟨X.ch (k / 7), 6 + k % 7 * 4 + 1, none⟩ = some (.float .f64 (X.P.es k).rect.b) ∧ wx.cell? ⟨X.ch (k / 7), 6 + k % 7 * 4 + 2, none⟩ = some (.float .f64 (X.P.es k).rect.c) ∧ wx.cell? ⟨X.ch (k / 7), 6 + k % 7 * 4 + 3, none⟩ = some (.float .f64 (X.P.es k).rect.d) ∧ wx.cell? ⟨X.ch (k / 7), 166 + k % 7 * 3 + 1 + 1, none⟩ = some (.int .i64 (k : Nat)))
              (go_keep)
              (first | (go_at_call 9; refine HTk.out.mono ?_; rintro e w4 ⟨rfl, gv', hS4, hc4⟩
                        rw [hsd]
                        obtain ⟨q0, q1, q2, q3, q4, q5⟩ := hS4.slot HPr.out hk
                        have t0 := (hc4.cell (p := ⟨wr.heap.size, 0, none⟩) hBs hBG).trans k0
                        have t1 := (hc4.cell (p := ⟨wr.heap.size, 1, none⟩) hBs hBG).trans k1
                        have t2 := (hc4.cell (p := ⟨wr.heap.size, 2, none⟩) hBs hBG).trans k2
                        have HS4 : Hid (St3 X w w4 (rs ++ [k]) qs' m g2 gv') := hS4
                        clear hS4 hc4))
            go_wp2_with fail
            exact bodyPost_ret (results_none Yba.results8 _ _ _) rfl ⟨rfl, rs ++ [k], gv', HP3.out.stopped HIO.out.1 HST.out, HS4.out.a, HS4.out.chg⟩
          · have hsd : decide (rs.length + 1 ≠ X.P.stop) = true := decide_eq_true hst
            have HST : Hid (rs.length + 1 ≠ X.P.stop) := hst
            clear hst
            go_region_held (fun wx => wx.cell? ⟨wr.heap.size, 0, none⟩ = some (.pointer (some ⟨X.ch (k / 7), 6 + k % 7 * 4, none⟩)) ∧ wx.cell? ⟨wr.heap.size, 1, none⟩ = some (.pointer (some ⟨X.ch (k / 7), 166 + k % 7 * 3 + 1, none⟩)) ∧ wx.cell? ⟨wr.heap.size, 2, none⟩ = some (.float .f64 (dk X.P.px X.P.py (X.P.es k).i4)) ∧
                wx.cell? ⟨X.ch (k / 7), 6 + k % 7 * 4, none⟩ = some (.float .f64 (X.P.es k).rect.a) ∧ wx.cell? ⟨X.ch (k / 7), 6 + k % 7 * 4 + 1, none⟩ = some (.float .f64 (X.P.es k).rect.b) ∧ wx.cell? ⟨X.ch (k / 7), 6 + k % 7 * 4 + 2, none⟩ = some (.float .f64 (X.P.es k).rect.c) ∧ wx.cell? ⟨X.ch (k / 7), 6 + k % 7 * 4 + 3, none⟩ = some (.float .f64 (X.P.es k).rect.d) ∧ wx.cell? ⟨X.ch (k / 7), 166 + k % 7 * 3 + 1 + 1, none⟩ = some (.int .i64 (k : Nat)))
              (go_keep)
              (first | (go_at_call 9; refine HTk.out.mono ?_; rintro e w4 ⟨rfl, gv', hS4, hc4⟩
                        rw [hsd]
                        obtain ⟨q0, q1, q2, q3, q4, q5⟩ := hS4.slot HPr.out hk
                        have t0 := (hc4.cell (p := ⟨wr.heap.size, 0, none⟩) hBs hBG).trans k0
                        have t1 := (hc4.cell (p := ⟨wr.heap.size, 1, none⟩) hBs hBG).trans k1
                        have t2 := (hc4.cell (p := ⟨wr.heap.size, 2, none⟩) hBs hBG).trans k2
                        have HS4 : Hid (St3 X w w4 (rs ++ [k]) qs' m g2 gv') := hS4
                        clear hS4 hc4))
            go_wp2_with fail
            go_roundg (wt qs')
            case measure => rw [HGK.out]; exact wt_taken HIO.out.1
            case rel => exact ⟨m, rs ++ [k], qs', g2, gv', rfl, rfl, HS4.out, HP3.out.taken HIO.out.1 HIO.out.2 HST.out⟩
      · obtain rfl : m = 0 := by omega
        have hqs : qs = [] := List.length_eq_zero_iff.1 hS.len.symm
        subst hqs
        have u0 := hS.k.k4
        have HS : Hid (St3 X w wr rs [] 0 g gv) := hS
        clear hS hm
        go_wp2_with fail
        clear u0
        go_loopw [65] (fun i wr2 => i = .int .i64 0 ∧ wr2 = wr) (fun _ _ => 0)
        case atStart => exact ⟨rfl, rfl⟩
        case round =>
          obtain ⟨rfl, hw⟩ := hrel
          go_wp2_with fail
          refine bodyPost_end (results_none Yba.results8 _ _ _) rfl ⟨rfl, rs, gv, HP3.out.done, HS.out.a, HS.out.chg⟩

end Go.Proofs.Ybulkazxi
