/-
  (candidates).pop.
-/
import Derived.Test.YbulkazxiPush
namespace Go.Proofs.Ybulkazxi
open Go.RowKit
attribute [local go_sem] run_store_float

/-- The state of the sifting down. B: where the result's slot lies; f: the candidate that was first. -/
structure Dn (w wr : World) (R n B : Nat) (f : Cd) (M : List Cd) (g : Nat → Cd) (k : Nat) : Prop where
  at_ : HAt wr R n g
  good : ∀ j, j < n → Good w R (g j)
  perm : (L g n).Perm M
  ord : AlmostDown g n k
  grown : w.grownBy wr (some R)
  out : wr.heap[B]? = some (.cells #[.pointer none, .pointer none, .float .f64 0] 130 (0, 0))
  fst : wr.heap[B + 1]? = some (.cells #[rp f, tp f, kv f] 130 (0, 0))
  ne : R < B

theorem Dn.drewN {w wr : World} {R n B : Nat} {f : Cd} {M : List Cd} {g : Nat → Cd} {k : Nat} (h : Dn w wr R n B f M g k) (m : Nat) : Dn w (wr.drewN m) R n B f M g k :=
  ⟨h.at_.drewN m, h.good, h.perm, h.ord, grown_drewN h.grown m, h.out, h.fst, h.ne⟩

theorem block_set {w : World} {R b : Nat} (a : Addr) (v : Value) (ha : a.block = R) (hb : b ≠ R) : (w.setCell a v).heap[b]? = w.heap[b]? := Below.heap_setCell w a v b (by rw [ha]; exact hb)

theorem Dn.swap {w wr : World} {R n B : Nat} {f : Cd} {M : List Cd} {g : Nat → Cd} {k m : Nat} (h : Dn w wr R n B f M g k) (hn : n ≤ 320) (hk : k < n) (hm : m < n) (he : m = 2 * k + 1 ∨ m = 2 * k + 2)
    (hmin : ∀ j, j < n → (j = 2 * k + 1 ∨ j = 2 * k + 2) → rk (g m) ≤ rk (g j)) (hb : bef (g m) (g k) = true) (q : Nat) :
    Dn w (((((((wr.drewN q).setCell ⟨R, k * 3, none⟩ (rp (g m))).setCell ⟨R, k * 3 + 1, none⟩ (tp (g m))).setCell ⟨R, k * 3 + 2, none⟩ (kv (g m))).setCell ⟨R, m * 3, none⟩ (rp (g k))).setCell ⟨R, m * 3 + 1, none⟩ (tp (g k))).setCell ⟨R, m * 3 + 2, none⟩ (kv (g k))) R n B f M (swp g k m) m := by
  have hr : rk (g m) < rk (g k) := by
    rw [bef_rk _ _ (h.good m hm).2.2.2 (h.good k hk).2.2.2] at hb
    simpa using hb
  have hne := h.ne
  have hB0 : B ≠ R := by omega
  have hB1 : B + 1 ≠ R := by omega
  refine ⟨((h.at_.drewN q).store k _ (by omega) (.inl (Nat.le_refl _))).store _ _ (by omega) (.inl (Nat.le_refl _)), swp_all hk hm h.good, (perm_swp g hk hm).trans h.perm, almostDown_step h.ord hm he hmin hr, ?_, ?_, ?_, hne⟩
  · exact grown_set _ _ rfl (grown_set _ _ rfl (grown_set _ _ rfl (grown_set _ _ rfl (grown_set _ _ rfl (grown_set _ _ rfl (grown_drewN h.grown q))))))
  · rw [block_set _ _ rfl hB0, block_set _ _ rfl hB0, block_set _ _ rfl hB0, block_set _ _ rfl hB0, block_set _ _ rfl hB0, block_set _ _ rfl hB0]; exact h.out
  · rw [block_set _ _ rfl hB1, block_set _ _ rfl hB1, block_set _ _ rfl hB1, block_set _ _ rfl hB1, block_set _ _ rfl hB1, block_set _ _ rfl hB1]; exact h.fst

theorem Dn.stop {w wr : World} {R n B : Nat} {f : Cd} {M : List Cd} {g : Nat → Cd} {k m : Nat} (h : Dn w wr R n B f M g k) (hk : k < n) (hm : m < n)
    (hmin : ∀ j, j < n → (j = 2 * k + 1 ∨ j = 2 * k + 2) → rk (g m) ≤ rk (g j)) (hb : bef (g m) (g k) = false) : IsHeap g n := by
  rw [bef_rk _ _ (h.good m hm).2.2.2 (h.good k hk).2.2.2] at hb
  exact almostDown_stop h.ord hmin (by simpa using hb)

/-- Which of the two children comes first. -/
theorem min_two {w : World} {R n : Nat} {g : Nat → Cd} (hg : ∀ j, j < n → Good w R (g j)) {k : Nat} (h2 : 2 * k + 2 < n) :
    (bef (g (2 * k + 2)) (g (2 * k + 1)) = true → ∀ j, j < n → (j = 2 * k + 1 ∨ j = 2 * k + 2) → rk (g (2 * k + 2)) ≤ rk (g j)) ∧
    (bef (g (2 * k + 2)) (g (2 * k + 1)) = false → ∀ j, j < n → (j = 2 * k + 1 ∨ j = 2 * k + 2) → rk (g (2 * k + 1)) ≤ rk (g j)) := by
  have e := bef_rk (g (2 * k + 2)) (g (2 * k + 1)) (hg _ h2).2.2.2 (hg _ (by omega)).2.2.2
  rw [e]
  constructor
  · intro h j _ hj
    have h' : rk (g (2 * k + 2)) < rk (g (2 * k + 1)) := by simpa using h
    rcases hj with rfl | rfl <;> omega
  · intro h j _ hj
    have h' : ¬ rk (g (2 * k + 2)) < rk (g (2 * k + 1)) := by simpa using h
    rcases hj with rfl | rfl <;> omega

theorem pop_start {w : World} {R n : Nat} {g : Nat → Cd} (hg : HAt w R (n + 1) g) (hgd : ∀ j, j < n + 1 → Good w R (g j)) (hh : IsHeap g (n + 1)) :
    Dn w (((((w.setCell ⟨R, 0, none⟩ (rp (g n))).setCell ⟨R, 1, none⟩ (tp (g n))).setCell ⟨R, 2, none⟩ (kv (g n))).alloc (.cells #[.pointer none, .pointer none, .float .f64 0] 130)).alloc (.cells #[rp (g 0), tp (g 0), kv (g 0)] 130)) R n w.heap.size (g 0) (L (upd g 0 (g n)) n) (upd g 0 (g n)) 0 := by
  have hR := hg.lt
  have hst := hg.store 0 (g n) (m := n) (by omega) (.inl (by omega))
  simp only [Nat.zero_mul, Nat.zero_add] at hst
  refine ⟨(hst.alloc _).alloc _, fun j hj => ?_, List.Perm.refl _, almostDown_pop hh, ?_, ?_, ?_, hR⟩
  · by_cases e : j = 0
    · rw [e, upd_same]; exact hgd n (by omega)
    · rw [upd_ne _ _ _ e]; exact hgd j (by omega)
  · have hgr : w.grownBy (((w.setCell ⟨R, 0, none⟩ (rp (g n))).setCell ⟨R, 1, none⟩ (tp (g n))).setCell ⟨R, 2, none⟩ (kv (g n))) (some R) := grown_set _ _ rfl (grown_set _ _ rfl (grown_set _ _ rfl (World.grownBy.refl w (some R))))
    exact grown_alloc (grown_alloc hgr _) _
  · generalize hW : ((w.setCell ⟨R, 0, none⟩ (rp (g n))).setCell ⟨R, 1, none⟩ (tp (g n))).setCell ⟨R, 2, none⟩ (kv (g n)) = W
    have hs : W.heap.size = w.heap.size := by rw [← hW, size_set, size_set, size_set]
    rw [Below.heap_alloc _ _ _ (by rw [size_alloc]; omega), ← hs]
    exact heap_alloc_new W _
  · generalize hW : ((w.setCell ⟨R, 0, none⟩ (rp (g n))).setCell ⟨R, 1, none⟩ (tp (g n))).setCell ⟨R, 2, none⟩ (kv (g n)) = W
    have hs : W.heap.size = w.heap.size := by rw [← hW, size_set, size_set, size_set]
    have := heap_alloc_new (W.alloc (.cells #[.pointer none, .pointer none, .float .f64 0] 130)) (.cells #[rp (g 0), tp (g 0), kv (g 0)] 130)
    rwa [size_alloc, hs] at this

/-- What the last region reads and writes. -/
theorem Dn.last {w wr : World} {R n B : Nat} {f : Cd} {M : List Cd} {g : Nat → Cd} {k : Nat} (h : Dn w wr R n B f M g k) :
    wr.cell? ⟨B + 1, 0, none⟩ = some (.pointer (some ⟨f.rb, f.ro, none⟩)) ∧ wr.cell? ⟨B + 1, 1, none⟩ = some (.pointer (some ⟨f.tb, f.to, none⟩)) ∧ wr.cell? ⟨B + 1, 2, none⟩ = some (.float .f64 f.ky) ∧
    wr.cell? ⟨B, 0, none⟩ = some (.pointer none) ∧ wr.cell? ⟨B, 1, none⟩ = some (.pointer none) ∧ wr.cell? ⟨B, 2, none⟩ = some (.float .f64 0) ∧ (∀ o, wr.frozen? ⟨B, o, none⟩ = false) :=
  ⟨by rw [cell_block h.fst]; rfl, by rw [cell_block h.fst]; rfl, by rw [cell_block h.fst]; rfl, by rw [cell_block h.out]; rfl, by rw [cell_block h.out]; rfl, by rw [cell_block h.out]; rfl, fun o => frozen_block h.out⟩

/-- What the call leaves. -/
theorem Dn.left {w wr : World} {R n : Nat} {f : Cd} {g0 : Nat → Cd} {g : Nat → Cd} {k : Nat} (h : Dn w wr R n w.heap.size f (L (upd g0 0 (g0 n)) n) g k) (hh : IsHeap g n) (v0 v1 v2 : Value) :
    ∃ g', HAt (((wr.setCell ⟨w.heap.size, 0, none⟩ v0).setCell ⟨w.heap.size, 1, none⟩ v1).setCell ⟨w.heap.size, 2, none⟩ v2) R n g' ∧ (g0 0 :: L g' n).Perm (L g0 (n + 1)) ∧ IsHeap g' n ∧
      w.grownBy (((wr.setCell ⟨w.heap.size, 0, none⟩ v0).setCell ⟨w.heap.size, 1, none⟩ v1).setCell ⟨w.heap.size, 2, none⟩ v2) (some R) := by
  have hne := h.ne
  have hB : R ≠ w.heap.size := by omega
  refine ⟨g, h.at_.of_block (by rw [block_set _ _ rfl hB, block_set _ _ rfl hB, block_set _ _ rfl hB]), (List.Perm.cons _ h.perm).trans (perm_pop g0 n), hh, ?_⟩
  refine ⟨h.grown.os, h.grown.tape, h.grown.output, by rw [size_set, size_set, size_set]; exact h.grown.size, fun j hj hjne => ?_⟩
  have hjB : j ≠ w.heap.size := by omega
  rw [block_set _ _ rfl hjB, block_set _ _ rfl hjB, block_set _ _ rfl hjB]
  exact h.grown.block j hj hjne

set_option maxRecDepth 100000 in
set_option maxHeartbeats 2000000 in
theorem pop_any (R n : Nat) (g : Nat → Cd) (w : World) (hn : n < 320) (hg : HAt w R (n + 1) g) (hgd : ∀ j, j < n + 1 → Good w R (g j)) (hh : IsHeap g (n + 1)) :
    Calls Yba.prog 23 #[.slice (some ⟨R, 0, none⟩) (n + 1) 320] w fun e w' =>
      e = .returned (.tuple #[.agg #[.pointer (some ⟨(g 0).rb, (g 0).ro, none⟩), .pointer (some ⟨(g 0).tb, (g 0).to, none⟩), .float .f64 (g 0).ky], .slice (some ⟨R, 0, none⟩) n 320]) ∧
      ∃ g', HAt w' R n g' ∧ (g 0 :: L g' n).Perm (L g (n + 1)) ∧ IsHeap g' n ∧ w.grownBy w' (some R) := by
  have HG : Hid (HAt w R (n + 1) g ∧ (∀ j, j < n + 1 → Good w R (g j)) ∧ IsHeap g (n + 1)) := ⟨hg, hgd, hh⟩
  have a0 := hg.c0 (j := 0) (by omega)
  have a1 := hg.c1 (j := 0) (by omega)
  have a2 := hg.c2 (j := 0) (by omega)
  simp only [Nat.zero_mul, Nat.zero_add] at a0 a1 a2
  have b0 := hg.c0 (j := n) (by omega)
  have b1 := hg.c1 (j := n) (by omega)
  have b2 := hg.c2 (j := n) (by omega)
  have fz := hg.frz
  have hR := hg.lt
  clear hg hgd hh
  go_enter Yba.func23, Yba.ntmps23
  go_wp2
  clear a0 a1 a2 b0 b1 b2 fz
  go_loopw [6] (fun i wr => ∃ (k : Nat) (gk : Nat → Cd), i = .int .i64 k ∧ (k = 0 ∨ k < n) ∧ Dn w wr R n w.heap.size (g 0) (L (upd g 0 (g n)) n) gk k) (fun i _ => n - (intOf i).toNat)
  case atStart => exact ⟨0, _, rfl, .inl rfl, pop_start HG.out.1 HG.out.2.1 HG.out.2.2⟩
  case round =>
    obtain ⟨k, gk, rfl, hk, V⟩ := hrel
    clear HG
    have HV : Hid (Dn w wr R n w.heap.size (g 0) (L (upd g 0 (g n)) n) gk k) := V
    clear V
    have hk3 : k < 320 := by omega
    by_cases h1 : 2 * k + 1 < n
    · have hkn : k < n := by omega
      have h1c : (2 : Int) * (k : Int) + 1 < (n : Int) := by omega
      have hB : ∀ (i j q : Nat), i < n → j < n → Calls Yba.prog 38 #[.slice (some ⟨R, 0, none⟩) n 320, .int .i64 i, .int .i64 j] (wr.drewN q) fun e w' => e = .returned (.bool (bef (gk i) (gk j))) ∧ ∃ m, w' = (wr.drewN q).drewN m :=
        fun i j q hi hj => before_any R n 320 i j (gk i) (gk j) (wr.drewN q) hi hj (by omega) (HV.out.at_.c1 hi) (HV.out.at_.c2 hi) (HV.out.at_.c1 hj) (HV.out.at_.c2 hj) ((HV.out.good _ hi).cell (grown_drewN HV.out.grown q)) ((HV.out.good _ hj).cell (grown_drewN HV.out.grown q))
      have HB : Hid (∀ (i j q : Nat), i < n → j < n → Calls Yba.prog 38 #[.slice (some ⟨R, 0, none⟩) n 320, .int .i64 i, .int .i64 j] (wr.drewN q) fun e w' => e = .returned (.bool (bef (gk i) (gk j))) ∧ ∃ m, w' = (wr.drewN q).drewN m) := hB
      clear hB
      by_cases h2 : 2 * k + 2 < n
      · have h2c : (2 : Int) * (k : Int) + 1 + 1 < (n : Int) := by omega
        go_wp2_with fail
        rw [show ((2 : Int) * (k : Int) + 1 + 1) = ((2 * k + 2 : Nat) : Int) from by omega, show ((2 : Int) * (k : Int) + 1) = ((2 * k + 1 : Nat) : Int) from by omega]
        refine (HB.out (2 * k + 2) (2 * k + 1) 0 h2 h1).mono ?_
        rintro e w1 ⟨rfl, q, rfl⟩
        cases hb1 : bef (gk (2 * k + 2)) (gk (2 * k + 1)) with
        | true =>
          have HM := (min_two HV.out.good h2).1 hb1
          clear hb1
          obtain ⟨m, hme⟩ : ∃ m, m = 2 * k + 2 := ⟨_, rfl⟩
          have hmn : m < n := by omega
          have HM' : Hid (∀ j, j < n → (j = 2 * k + 1 ∨ j = 2 * k + 2) → rk (gk m) ≤ rk (gk j)) := by rw [hme]; exact HM
          have HE : Hid (m = 2 * k + 1 ∨ m = 2 * k + 2) := by rw [hme]; show _ ∨ _; omega
          have HI : Hid ((2 * (k : Int) + 1 + 1 : Int) = (m : Int)) := by rw [hme]; show _ = _; omega
          have mk : k < m := by omega
          clear hme HM
          go_wp2_with fail
          simp only [HI.out]
          refine (HB.out m k _ hmn hkn).mono ?_
          rintro e w2 ⟨rfl, q2, rfl⟩
          clear HB
          have mc : (m : Int) < (n : Int) := by omega
          have kc : (k : Int) < (n : Int) := by omega
          cases hb2 : bef (gk m) (gk k) with
          | true =>
            have a0 := HV.out.at_.c0 hkn
            have a1 := HV.out.at_.c1 hkn
            have a2 := HV.out.at_.c2 hkn
            have b0 := HV.out.at_.c0 hmn
            have b1 := HV.out.at_.c1 hmn
            have b2 := HV.out.at_.c2 hmn
            have fz := HV.out.at_.frz
            have HB2 : Hid (bef (gk m) (gk k) = true) := hb2
            clear hb2
            go_wp2
            go_region
            clear a0 a1 a2 b0 b1 b2 fz
            go_wp2
            go_roundw
            case rel => exact ⟨m, _, rfl, .inr hmn, HV.out.swap (by omega) hkn hmn HE.out HM'.out HB2.out _⟩
            case measure => simp [intOf]; omega
          | false =>
            have hh : IsHeap gk n := HV.out.stop hkn hmn HM'.out hb2
            have HH : Hid (IsHeap gk n) := hh
            clear hh
            obtain ⟨f0, f1, f2, o0, o1, o2, of⟩ := HV.out.last
            go_wp2
            refine bodyPost_ret (v := .tuple #[.agg #[.pointer (some ⟨(g 0).rb, (g 0).ro, none⟩), .pointer (some ⟨(g 0).tb, (g 0).to, none⟩), .float .f64 (g 0).ky], .slice (some ⟨R, 0, none⟩) n 320]) ?_ rfl ⟨rfl, ?_⟩
            · simp [results, Yba.results23, go_sem, o0, o1, o2]
            · exact (HV.out.drewN _).left HH.out _ _ _
        | false =>
          have HM := (min_two HV.out.good h2).2 hb1
          clear hb1
          obtain ⟨m, hme⟩ : ∃ m, m = 2 * k + 1 := ⟨_, rfl⟩
          have hmn : m < n := by omega
          have HM' : Hid (∀ j, j < n → (j = 2 * k + 1 ∨ j = 2 * k + 2) → rk (gk m) ≤ rk (gk j)) := by rw [hme]; exact HM
          have HE : Hid (m = 2 * k + 1 ∨ m = 2 * k + 2) := by rw [hme]; show _ ∨ _; omega
          have HI : Hid ((2 * (k : Int) + 1 : Int) = (m : Int)) := by rw [hme]; show _ = _; omega
          have mk : k < m := by omega
          clear hme HM
          go_wp2_with fail
          simp only [HI.out]
          refine (HB.out m k _ hmn hkn).mono ?_
          rintro e w2 ⟨rfl, q2, rfl⟩
          clear HB
          have mc : (m : Int) < (n : Int) := by omega
          have kc : (k : Int) < (n : Int) := by omega
          cases hb2 : bef (gk m) (gk k) with
          | true =>
            have a0 := HV.out.at_.c0 hkn
            have a1 := HV.out.at_.c1 hkn
            have a2 := HV.out.at_.c2 hkn
            have b0 := HV.out.at_.c0 hmn
            have b1 := HV.out.at_.c1 hmn
            have b2 := HV.out.at_.c2 hmn
            have fz := HV.out.at_.frz
            have HB2 : Hid (bef (gk m) (gk k) = true) := hb2
            clear hb2
            go_wp2
            go_region
            clear a0 a1 a2 b0 b1 b2 fz
            go_wp2
            go_roundw
            case rel => exact ⟨m, _, rfl, .inr hmn, HV.out.swap (by omega) hkn hmn HE.out HM'.out HB2.out _⟩
            case measure => simp [intOf]; omega
          | false =>
            have hh : IsHeap gk n := HV.out.stop hkn hmn HM'.out hb2
            have HH : Hid (IsHeap gk n) := hh
            clear hh
            obtain ⟨f0, f1, f2, o0, o1, o2, of⟩ := HV.out.last
            go_wp2
            refine bodyPost_ret (v := .tuple #[.agg #[.pointer (some ⟨(g 0).rb, (g 0).ro, none⟩), .pointer (some ⟨(g 0).tb, (g 0).to, none⟩), .float .f64 (g 0).ky], .slice (some ⟨R, 0, none⟩) n 320]) ?_ rfl ⟨rfl, ?_⟩
            · simp [results, Yba.results23, go_sem, o0, o1, o2]
            · exact (HV.out.drewN _).left HH.out _ _ _
      · have HM : ∀ j, j < n → (j = 2 * k + 1 ∨ j = 2 * k + 2) → rk (gk (2 * k + 1)) ≤ rk (gk j) := fun j hj he => by
          have e : j = 2 * k + 1 := by omega
          rw [e]; exact Int.le_refl _
        have h2c : ¬ (2 : Int) * (k : Int) + 1 + 1 < (n : Int) := by omega
        obtain ⟨m, hme⟩ : ∃ m, m = 2 * k + 1 := ⟨_, rfl⟩
        have hmn : m < n := by omega
        have HM' : Hid (∀ j, j < n → (j = 2 * k + 1 ∨ j = 2 * k + 2) → rk (gk m) ≤ rk (gk j)) := by rw [hme]; exact HM
        have HE : Hid (m = 2 * k + 1 ∨ m = 2 * k + 2) := by rw [hme]; show _ ∨ _; omega
        have HI : Hid ((2 * (k : Int) + 1 : Int) = (m : Int)) := by rw [hme]; show _ = _; omega
        have mk : k < m := by omega
        clear hme HM
        go_wp2_with fail
        simp only [HI.out]
        refine (HB.out m k 0 hmn hkn).mono ?_
        rintro e w2 ⟨rfl, q2, rfl⟩
        clear HB
        have mc : (m : Int) < (n : Int) := by omega
        have kc : (k : Int) < (n : Int) := by omega
        cases hb2 : bef (gk m) (gk k) with
        | true =>
          have a0 := HV.out.at_.c0 hkn
          have a1 := HV.out.at_.c1 hkn
          have a2 := HV.out.at_.c2 hkn
          have b0 := HV.out.at_.c0 hmn
          have b1 := HV.out.at_.c1 hmn
          have b2 := HV.out.at_.c2 hmn
          have fz := HV.out.at_.frz
          have HB2 : Hid (bef (gk m) (gk k) = true) := hb2
          clear hb2
          go_wp2
          go_region
          clear a0 a1 a2 b0 b1 b2 fz
          go_wp2
          go_roundw
          case rel => exact ⟨m, _, rfl, .inr hmn, HV.out.swap (by omega) hkn hmn HE.out HM'.out HB2.out _⟩
          case measure => simp [intOf]; omega
        | false =>
          have hh : IsHeap gk n := HV.out.stop hkn hmn HM'.out hb2
          have HH : Hid (IsHeap gk n) := hh
          clear hh
          obtain ⟨f0, f1, f2, o0, o1, o2, of⟩ := HV.out.last
          go_wp2
          refine bodyPost_ret (v := .tuple #[.agg #[.pointer (some ⟨(g 0).rb, (g 0).ro, none⟩), .pointer (some ⟨(g 0).tb, (g 0).to, none⟩), .float .f64 (g 0).ky], .slice (some ⟨R, 0, none⟩) n 320]) ?_ rfl ⟨rfl, ?_⟩
          · simp [results, Yba.results23, go_sem, o0, o1, o2]
          · exact (HV.out.drewN _).left HH.out _ _ _
    · have hh : IsHeap gk n := almostDown_leaf HV.out.ord (by omega)
      have HH : Hid (IsHeap gk n) := hh
      clear hh
      have h1c : ¬ (2 : Int) * (k : Int) + 1 < (n : Int) := by omega
      obtain ⟨f0, f1, f2, o0, o1, o2, of⟩ := (HV.out).last
      go_wp2
      refine bodyPost_ret (v := .tuple #[.agg #[.pointer (some ⟨(g 0).rb, (g 0).ro, none⟩), .pointer (some ⟨(g 0).tb, (g 0).to, none⟩), .float .f64 (g 0).ky], .slice (some ⟨R, 0, none⟩) n 320]) ?_ rfl ⟨rfl, ?_⟩
      · simp [results, Yba.results23, go_sem, o0, o1, o2]
      · exact (HV.out).left HH.out _ _ _

end Go.Proofs.Ybulkazxi
