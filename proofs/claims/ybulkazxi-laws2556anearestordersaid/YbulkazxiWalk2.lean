/-
  walk under a ranking function, from a leaf.
-/
import Derived.Test.YbulkazxiReach2
import Derived.Test.YbulkazxiWalk2Pop
namespace Go.Proofs.Ybulkazxi
open Go.RowKit
attribute [local go_sem] run_store_float func_eq_nil nil_eq_nil
attribute [local go_sem ↓] Go.wp_at_zero Go.wp_at_succ

/-- What the walk has taken and what waits. -/
structure Wk (X : Cx) (w0 w : World) (rs qs : List Nat) (m : Nat) : Prop where
  st : ∃ cv uv gv g, St2 X w0 w X.n (callsL X.n) (nansTo X.es X.n).length (nbs X.es (nansTo X.es X.n)) rs.length (nbs X.es rs) cv uv gv m g qs
  perm : (rs ++ qs).Perm (rankTo X.es X.n)
  ord : rs.Pairwise fun a b => kf X.es a ≤ kf X.es b
  low : ∀ a ∈ rs, ∀ b ∈ qs, kf X.es a ≤ kf X.es b

theorem rank_nans (es : Nat → En) (n : Nat) : (rankTo es n).length + (nansTo es n).length = n := by
  induction n with
  | zero => rfl
  | succ n ih =>
    rw [rankTo_succ, nansTo_succ, List.length_append, List.length_append]
    cases (es n).nan <;> simp <;> omega

theorem Wk.next {X : Cx} {w0 w w4 : World} {rs qs qs' : List Nat} {m i : Nat} {cv uv gv : Value} {g : Nat → Cd} (h : Wk X w0 w rs qs (m + 1))
    (hS : St2 X w0 w4 X.n (callsL X.n) (nansTo X.es X.n).length (nbs X.es (nansTo X.es X.n)) (rs.length + 1) (nbs X.es rs ++ nb (X.es i).rect (i : Nat) (X.es i).key) cv uv gv m g qs') (hp : qs.Perm (i :: qs') ∧ ∀ b ∈ qs', kf X.es i ≤ kf X.es b) : Wk X w0 w4 (rs ++ [i]) qs' m := by
  obtain ⟨hp, hle⟩ := hp
  refine ⟨⟨cv, uv, gv, g, ?_⟩, ?_, ?_, ?_⟩
  · rw [nbs_append, nbs_one, List.length_append]; exact hS
  · rw [List.append_assoc]; exact (List.Perm.append_left rs hp.symm).trans h.perm
  · rw [List.pairwise_append]
    refine ⟨h.ord, List.pairwise_singleton _ _, fun a ha b hb => ?_⟩
    rw [List.mem_singleton.1 hb]
    exact h.low a ha i (hp.mem_iff.2 (List.mem_cons_self ..))
  · intro a ha b hb
    rcases List.mem_append.1 ha with ha | ha
    · exact h.low a ha b (hp.mem_iff.2 (List.mem_cons_of_mem _ hb))
    · rw [List.mem_singleton.1 ha]; exact hle b hb

set_option maxRecDepth 100000 in
set_option maxHeartbeats 2000000 in
theorem walk2_any (X : Cx) (h c : Int) (w0 w : World) (hP : Pre2 X w0 w) :
    Calls Yba.prog 8 #[.agg #[.int .u64 0, .pointer (some ⟨X.N, 0, none⟩), .int .i64 h, .int .i64 c, .pointer none], .agg #[.float .f64 0, .float .f64 0], .func (.func 12) #[] #[.pointer (some ⟨X.C, 0, none⟩), .pointer (some ⟨X.E, 0, none⟩)], .func (.func 15) #[] #[.pointer (some ⟨X.G, 0, none⟩)]] w fun e w' => e = .returned (.tuple #[]) ∧
      ∃ rs cv uv gv g, St2 X w0 w' X.n (callsL X.n) (nansTo X.es X.n).length (nbs X.es (nansTo X.es X.n)) X.n (nbs X.es (rs ++ nansTo X.es X.n)) cv uv gv 0 g [] ∧ rs.Perm (rankTo X.es X.n) ∧ rs.Pairwise (fun a b => kf X.es a ≤ kf X.es b) := by
  have OK : Hid X.ok := hP.ok
  have HPr : Hid (Pre2 X w0 w) := hP
  have er : Hid (X.R = w.heap.size + 1 + 1) := hP.r
  have ek : Hid (X.K = w.heap.size + 1 + 1 + 1) := hP.k
  clear hP
  go_enter Yba.func8, Yba.ntmps8
  go_upto_region 3 with fail
  go_cut [9] from 14 (fun kp wc => kp = .pointer (some ⟨X.K, 0, none⟩) ∧ St2 X w0 wc 0 [] 0 [] 0 [] (.slice none 0 0) (.slice none 0 0) (.slice none 0 0) 0 (fun _ => X.cd 0) [] ∧ wc.cell? ⟨w.heap.size, 1, none⟩ = some (.pointer (some ⟨X.N, 0, none⟩)))
  case first =>
    go_wp2_with fail
    go_meet
    case rel =>
      refine ⟨by rw [ek.out], begun_st HPr.out _ _ _, ?_⟩
      exact (((((Chg.refl (fun _ => False) (w.alloc _)).alloc _).alloc _).alloc _).cell (p := ⟨w.heap.size, 1, none⟩) (by simp) id).trans (cell_block (heap_alloc_new w _))
  case rest =>
    obtain ⟨rfl, hS, h1⟩ := hcut
    have HRc : Hid (Calls Yba.prog 22 #[.slice (some ⟨w.heap.size + 1 + 1, 0, none⟩) 0 320, .pointer (some ⟨X.N, 0, none⟩), .pointer (some ⟨X.K, 0, none⟩)] wc.drew fun e w' =>
      ∃ m g' cv' uv', e = .returned (.slice (some ⟨X.R, 0, none⟩) m 320) ∧ St2 X w0 w' X.n (callsL X.n) (nansTo X.es X.n).length (nbs X.es (nansTo X.es X.n)) 0 [] cv' uv' (.slice none 0 0) m g' (rankTo X.es X.n)) := by
      rw [← er.out]
      exact reach2_any X OK.out w0 _ _ 0 [] _ _ _ (hS.far OK.out (Chg.refl _ wc).drew)
    clear hS
    go_wp2_with fail
    go_region_with (first | (go_at_call 22; refine HRc.out.mono ?_; rintro e w1 ⟨m, g', cv', uv', rfl, hS1⟩))
    clear HRc h1
    have HW1 : Hid (Wk X w0 w1 [] (rankTo X.es X.n) m) := ⟨⟨cv', uv', _, g', hS1⟩, List.Perm.refl _, List.Pairwise.nil, fun a ha => by cases ha⟩
    clear hS1
    go_wp2_with fail
    simp only [Act.put, List.getElem_toArray, List.getElem_cons_succ, List.getElem_cons_zero, List.setIfInBounds_toArray, List.set_cons_zero, List.set_cons_succ]
    go_loopw [10] (fun q wr => ∃ (m : Nat) (rs qs : List Nat), q = .slice (some ⟨X.R, 0, none⟩) m 320 ∧ Wk X w0 wr rs qs m) (fun q _ => match q with | .slice _ n _ => n | _ => 0)
    case atStart => exact ⟨m, [], rankTo X.es X.n, rfl, HW1.out⟩
    case round =>
      obtain ⟨m, rs, qs, rfl, hW⟩ := hrel
      clear HW1
      have HW : Hid (Wk X w0 wr rs qs m) := hW
      clear hW
      by_cases hm : 0 < m
      · obtain ⟨m, rfl⟩ : ∃ m', m = m' + 1 := ⟨m - 1, by omega⟩
        obtain ⟨cv, uv, gv, g, hS⟩ := HW.out.st
        have HPop : Hid (∀ o, Calls Yba.prog 23 #[.slice (some ⟨X.R, 0, none⟩) (m + 1) 320] (wr.alloc o) fun e w' => ∃ i qs' g',
          e = .returned (.tuple #[.agg #[.pointer (some ⟨X.N, 6 + i * 4, none⟩), .pointer (some ⟨X.N, 166 + i * 3 + 1, none⟩), .float .f64 (X.es i).key], .slice (some ⟨X.R, 0, none⟩) m 320]) ∧
          (i < X.n ∧ qs.Perm (i :: qs') ∧ ∀ b ∈ qs', kf X.es i ≤ kf X.es b) ∧ w'.heap[wr.heap.size]? = some o ∧
          ∀ a b c : Value, St2 X w0 (((w'.setCell ⟨wr.heap.size, 0, none⟩ a).setCell ⟨wr.heap.size, 1, none⟩ b).setCell ⟨wr.heap.size, 2, none⟩ c) X.n (callsL X.n) (nansTo X.es X.n).length (nbs X.es (nansTo X.es X.n)) rs.length (nbs X.es rs) cv uv gv m g' qs') := fun o => hS.pop OK.out o
        have hNB : wr.heap.size ≠ X.N := Nat.ne_of_gt hS.f.nd.lt
        have HBG : Hid (wr.heap.size ≠ X.G ∧ gv.ownBlock ≠ some wr.heap.size) := ⟨Nat.ne_of_gt (Nat.lt_of_lt_of_le OK.out.e5 hS.f.le), fun e => Nat.lt_irrefl _ (own_lt hS.a.g.own e).2⟩
        clear hS
        go_wp2_with fail
        refine (HPop.out _).mono ?_
        rintro e w2 ⟨i, qs', g2, rfl, hio, hb2, hS2⟩
        have b0 : w2.cell? ⟨wr.heap.size, 0, none⟩ = some (.pointer none) := cell_block hb2
        have b1 : w2.cell? ⟨wr.heap.size, 1, none⟩ = some (.pointer none) := cell_block hb2
        have b2 : w2.cell? ⟨wr.heap.size, 2, none⟩ = some (.float .f64 0) := cell_block hb2
        have bf : ∀ o, w2.frozen? ⟨wr.heap.size, o, none⟩ = false := fun o => frozen_block hb2
        have hfar : ∀ a b c o, (((w2.setCell ⟨wr.heap.size, 0, none⟩ a).setCell ⟨wr.heap.size, 1, none⟩ b).setCell ⟨wr.heap.size, 2, none⟩ c).cell? ⟨X.N, o, none⟩ = w2.cell? ⟨X.N, o, none⟩ := fun a b c o => by
          rw [World.cell?_setCell_far _ _ _ _ hNB, World.cell?_setCell_far _ _ _ _ hNB, World.cell?_setCell_far _ _ _ _ hNB]
        have hsl := (hS2 (.bool true) (.bool true) (.bool true)).f.slot OK.out hio.1
        rw [hfar, hfar, hfar, hfar, hfar, hfar] at hsl
        obtain ⟨r0, r1, r2, r3, r4, r5⟩ := hsl
        have HS2 : Hid (∀ a b c : Value, St2 X w0 (((w2.setCell ⟨wr.heap.size, 0, none⟩ a).setCell ⟨wr.heap.size, 1, none⟩ b).setCell ⟨wr.heap.size, 2, none⟩ c) X.n (callsL X.n) (nansTo X.es X.n).length (nbs X.es (nansTo X.es X.n)) rs.length (nbs X.es rs) cv uv gv m g2 qs') := hS2
        have HIO : Hid (i < X.n ∧ qs.Perm (i :: qs') ∧ ∀ b ∈ qs', kf X.es i ≤ kf X.es b) := hio
        clear HPop hS2 hio hfar hb2
        go_wp2_with fail
        have hgn : rs.length ≤ 1000 := by
          have h1 := HW.out.perm.length_eq
          have h2 : (rankTo X.es X.n).length ≤ X.n := Nat.le_trans (List.length_filter_le _ _) (by simp)
          have h3 := OK.out.n40
          simp at h1
          omega
        obtain ⟨w3, hw3⟩ : ∃ w3, w3 = (((w2.setCell ⟨wr.heap.size, 0, none⟩ (.pointer (some ⟨X.N, 6 + i * 4, none⟩))).setCell ⟨wr.heap.size, 1, none⟩ (.pointer (some ⟨X.N, 166 + i * 3 + 1, none⟩))).setCell ⟨wr.heap.size, 2, none⟩ (.float .f64 (X.es i).key)) := ⟨_, rfl⟩
        have hS3 := HS2.out (.pointer (some ⟨X.N, 6 + i * 4, none⟩)) (.pointer (some ⟨X.N, 166 + i * 3 + 1, none⟩)) (.float .f64 (X.es i).key)
        rw [← hw3] at hS3 ⊢
        have k0 : w3.cell? ⟨wr.heap.size, 0, none⟩ = some (.pointer (some ⟨X.N, 6 + i * 4, none⟩)) := by
          rw [hw3, World.cell?_setCell_other _ _ _ _ (by simp), World.cell?_setCell_other _ _ _ _ (by simp)]; exact World.cell?_setCell_same' _ _ _ (by rw [b0]; rfl)
        have k1 : w3.cell? ⟨wr.heap.size, 1, none⟩ = some (.pointer (some ⟨X.N, 166 + i * 3 + 1, none⟩)) := by
          rw [hw3, World.cell?_setCell_other _ _ _ _ (by simp)]; exact World.cell?_setCell_same' _ _ _ (by rw [World.cell?_setCell_other _ _ _ _ (by simp), b1]; rfl)
        have k2 : w3.cell? ⟨wr.heap.size, 2, none⟩ = some (.float .f64 (X.es i).key) := by
          rw [hw3]; exact World.cell?_setCell_same' _ _ _ (by rw [World.cell?_setCell_other _ _ _ _ (by simp), World.cell?_setCell_other _ _ _ _ (by simp), b2]; rfl)
        clear hw3 HS2 b0 b1 b2 bf r0 r1 r2 r3 r4 r5
        obtain ⟨r0, r1, r2, r3, r4, r5⟩ := hS3.f.slot OK.out HIO.out.1
        have HS3 : Hid (St2 X w0 w3 X.n (callsL X.n) (nansTo X.es X.n).length (nbs X.es (nansTo X.es X.n)) rs.length (nbs X.es rs) cv uv gv m g2 qs') := hS3
        have hBG : wr.heap.size ≠ X.G ∧ gv.ownBlock ≠ some wr.heap.size := HBG.out
        have hBs : wr.heap.size < w3.drew.heap.size := World.block_lt_of_cell? w3 ⟨wr.heap.size, 0, none⟩ k0
        clear hS3
        have HTk : Hid (Calls Yba.prog 15 #[.agg #[.float .f64 (X.es i).rect.a, .float .f64 (X.es i).rect.b, .float .f64 (X.es i).rect.c, .float .f64 (X.es i).rect.d, .int .i64 i, .float .f64 (X.es i).key], .pointer (some ⟨X.G, 0, none⟩)] w3.drew fun e w' =>
          e = .returned (.bool true) ∧ ∃ gv', St2 X w0 w' X.n (callsL X.n) (nansTo X.es X.n).length (nbs X.es (nansTo X.es X.n)) (rs.length + 1) (nbs X.es rs ++ nb (X.es i).rect (i : Nat) (X.es i).key) cv uv gv' m g2 qs' ∧ Chg (fun j => j = X.G ∨ gv.ownBlock = some j) w3.drew w') :=
          (HS3.out.far OK.out (Chg.refl _ _).drew).take' OK.out hgn (X.es i).rect (i : Nat) (X.es i).key
        go_region_held (fun wx => wx.cell? ⟨wr.heap.size, 0, none⟩ = some (.pointer (some ⟨X.N, 6 + i * 4, none⟩)) ∧ wx.cell? ⟨wr.heap.size, 1, none⟩ = some (.pointer (some ⟨X.N, 166 + i * 3 + 1, none⟩)) ∧ wx.cell? ⟨wr.heap.size, 2, none⟩ = some (.float .f64 (X.es i).key) ∧
            wx.cell? ⟨X.N, 6 + i * 4, none⟩ = some (.float .f64 (X.es i).rect.a) ∧ wx.cell? ⟨X.N, 6 + i * 4 + 1, none⟩ = some (.float .f64 (X.es i).rect.b) ∧ wx.cell? ⟨X.N, 6 + i * 4 + 2, none⟩ = some (.float .f64 (X.es i).rect.c) ∧ wx.cell? ⟨X.N, 6 + i * 4 + 3, none⟩ = some (.float .f64 (X.es i).rect.d) ∧ wx.cell? ⟨X.N, 166 + i * 3 + 1 + 1, none⟩ = some (.int .i64 (i : Nat)))
          (go_keep)
          (first | (go_at_call 15; refine HTk.out.mono ?_; rintro e w4 ⟨rfl, gv', hS4, hc4⟩
                    obtain ⟨q0, q1, q2, q3, q4, q5⟩ := hS4.f.slot OK.out HIO.out.1
                    have t0 := (hc4.cell (p := ⟨wr.heap.size, 0, none⟩) hBs (fun f => f.elim hBG.1 hBG.2)).trans k0
                    have t1 := (hc4.cell (p := ⟨wr.heap.size, 1, none⟩) hBs (fun f => f.elim hBG.1 hBG.2)).trans k1
                    have t2 := (hc4.cell (p := ⟨wr.heap.size, 2, none⟩) hBs (fun f => f.elim hBG.1 hBG.2)).trans k2
                    have HS4 : Hid (St2 X w0 w4 X.n (callsL X.n) (nansTo X.es X.n).length (nbs X.es (nansTo X.es X.n)) (rs.length + 1) (nbs X.es rs ++ nb (X.es i).rect (i : Nat) (X.es i).key) cv uv gv' m g2 qs') := hS4
                    clear hS4 hc4))
        go_wp2_with fail
        refine ⟨⟨m, rs ++ [i], qs', rfl, Wk.next HW.out HS4.out HIO.out.2⟩, by simp⟩
      · obtain rfl : m = 0 := by omega
        obtain ⟨cv, uv, gv, g, hS⟩ := HW.out.st
        obtain ⟨p, cp, rfl⟩ := own_slice hS.a.u.own
        have hqs : qs = [] := List.length_eq_zero_iff.1 hS.q.len.symm
        subst hqs
        have u0 := hS.a.u.cell
        obtain ⟨un, hun⟩ : ∃ un, un = (nansTo X.es X.n).length := ⟨_, rfl⟩
        have HUN : Hid (un = (nansTo X.es X.n).length) := hun
        have HS : Hid (St2 X w0 wr X.n (callsL X.n) (nansTo X.es X.n).length (nbs X.es (nansTo X.es X.n)) rs.length (nbs X.es rs) cv (.slice p (nansTo X.es X.n).length cp) gv 0 g []) := hS
        rw [← hun] at u0
        have HPm : Hid (rs.Perm (rankTo X.es X.n) ∧ rs.Pairwise (fun a b => kf X.es a ≤ kf X.es b)) := ⟨by simpa using HW.out.perm, HW.out.ord⟩
        clear hS hun HW hm
        go_wp2_with fail
        clear u0
        go_loopw [65] (fun i wr2 => ∃ (t : Nat) (gv' : Value), t ≤ un ∧ i = .int .i64 t ∧ St2 X w0 wr2 X.n (callsL X.n) un (nbs X.es (nansTo X.es X.n)) (rs.length + t) (nbs X.es (rs ++ (nansTo X.es X.n).take t)) cv (.slice p un cp) gv' 0 g []) (fun i _ => un - (intOf i).toNat)
        case atStart => exact ⟨0, gv, Nat.zero_le _, rfl, by rw [List.take_zero, List.append_nil, HUN.out]; exact HS.out⟩
        case round =>
          obtain ⟨t, gv', ht, rfl, hS⟩ := hrel
          clear HS
          by_cases hlt : t < un
          · have hlc : (t : Int) < (un : Int) := by omega
            obtain ⟨a, ha⟩ : ∃ a, (nansTo X.es X.n)[t]? = some a := ⟨_, List.getElem?_eq_getElem (by rw [← HUN.out]; exact hlt)⟩
            obtain ⟨ga, cg, hpe, _, _⟩ := hS.a.u.own.form (by omega)
            cases hpe
            have hcl : ∀ j, j < 6 → wr.cell? ⟨ga, t * 6 + j, none⟩ = (nb (X.es a).rect (a : Nat) (X.es a).key)[j]? := fun j hj => by
              rw [← nbs_get X.es (nansTo X.es X.n) t j hj a ha]
              exact hS.a.u.own.cellAt _ (by omega)
            have z0 := hcl 0 (by omega)
            have z1 := hcl 1 (by omega)
            have z2 := hcl 2 (by omega)
            have z3 := hcl 3 (by omega)
            have z4 := hcl 4 (by omega)
            have z5 := hcl 5 (by omega)
            simp only [nb, Nat.add_zero, List.getElem?_cons_zero, List.getElem?_cons_succ] at z0 z1 z2 z3 z4 z5
            have HS : Hid (St2 X w0 wr X.n (callsL X.n) un (nbs X.es (nansTo X.es X.n)) (rs.length + t) (nbs X.es (rs ++ (nansTo X.es X.n).take t)) cv (.slice (some ⟨ga, 0, none⟩) un cp) gv' 0 g []) := hS
            clear hS hcl
            have hgn : rs.length + t ≤ 1000 := by
              have h1 := HPm.out.1.length_eq
              have h2 : (rankTo X.es X.n).length ≤ X.n := Nat.le_trans (List.length_filter_le _ _) (by simp)
              have h4 : (nansTo X.es X.n).length ≤ X.n := Nat.le_trans (List.length_filter_le _ _) (by simp)
              have h3 := OK.out.n40
              have h5 := HUN.out
              omega
            have HTk : Hid (∀ o, Calls Yba.prog 15 #[.agg #[.float .f64 (X.es a).rect.a, .float .f64 (X.es a).rect.b, .float .f64 (X.es a).rect.c, .float .f64 (X.es a).rect.d, .int .i64 a, .float .f64 (X.es a).key], .pointer (some ⟨X.G, 0, none⟩)] (wr.alloc o) fun e w' =>
              e = .returned (.bool true) ∧ ∃ gv', St2 X w0 w' X.n (callsL X.n) un (nbs X.es (nansTo X.es X.n)) (rs.length + t + 1) (nbs X.es (rs ++ (nansTo X.es X.n).take t) ++ nb (X.es a).rect (a : Nat) (X.es a).key) cv (.slice (some ⟨ga, 0, none⟩) un cp) gv' 0 g []) := fun o => ((HS.out.far OK.out ((Chg.refl _ wr).alloc o)).take OK.out hgn _ _ _)
            go_wp2_with (go_at_call 15; refine (HTk.out _).mono ?_; rintro e w5 ⟨rfl, gv5, hS5⟩)
            refine ⟨⟨t + 1, gv5, by omega, by simp, ?_⟩, by simp [intOf]; omega⟩
            have e1 : (nansTo X.es X.n).take (t + 1) = (nansTo X.es X.n).take t ++ [a] := by rw [List.take_add_one, ha]; rfl
            rw [e1, ← List.append_assoc, nbs_append, nbs_one, ← Nat.add_assoc]
            exact hS5
          · obtain rfl : t = un := by omega
            have HS : Hid (St2 X w0 wr X.n (callsL X.n) t (nbs X.es (nansTo X.es X.n)) (rs.length + t) (nbs X.es (rs ++ (nansTo X.es X.n).take t)) cv (.slice p t cp) gv' 0 g []) := hS
            clear hS
            go_wp2_with fail
            refine bodyPost_end (results_none Yba.results8 _ _ _) rfl ⟨rfl, rs, cv, .slice p t cp, gv', g, ?_, HPm.out⟩
            have hS := HS.out
            have hl : rs.length + t = X.n := by rw [HPm.out.1.length_eq, HUN.out]; exact rank_nans X.es X.n
            have hk : (nansTo X.es X.n).take t = nansTo X.es X.n := List.take_of_length_le (by rw [HUN.out]; exact Nat.le_refl _)
            rw [hl, hk] at hS
            rw [← HUN.out]
            exact hS

end Go.Proofs.Ybulkazxi
