/-
  (candidates).push.
-/
import Derived.Test.YbulkazxiMem
import Derived.Deep.AppendSrc
import Derived.Lib.JoinLaws
import Derived.RegionTactic
import Derived.BigRegion
import Derived.Deep.RegionHeld
namespace Go.Proofs.Ybulkazxi
open Go.RowKit
attribute [local go_sem] run_store_float

theorem Yba.info130 : (Yba.prog.info? 130).map (fun i => (i.zero, i.size, i.bytes)) = some (some (.agg #[.pointer none, .pointer none, .float .f64 0]), 3, 24) := by kernel_rfl

theorem setCells3 (w : World) (R o : Nat) (a b c : Value) : w.setCells R o [a, b, c] = ((w.setCell ⟨R, o, none⟩ a).setCell ⟨R, o + 1, none⟩ b).setCell ⟨R, o + 2, none⟩ c := rfl

theorem push_src {w : World} {x y z : Value} (o : Obj) (hx : x.oneCell' = true) (hy : y.oneCell' = true) (hz : z.oneCell' = true) :
    Src Yba.prog 3 135 (.slice (some ⟨w.heap.size + 1, 0, none⟩) 1 1) 1 [x, y, z] ((w.alloc o).alloc (.cells #[x, y, z] 130)) := by
  refine Src.ofSlice _ Yba.underlying135 _ 1 1 _ rfl ?_ ?_
  · intro j u hj
    match j, hj with
    | 0, hj => simp at hj; subst hj; simp [Addr.add, go_sem]
    | 1, hj => simp at hj; subst hj; simp [Addr.add, go_sem]
    | 2, hj => simp at hj; subst hj; simp [Addr.add, go_sem]
  · intro u hu
    simp at hu
    rcases hu with rfl | rfl | rfl
    · exact hx
    · exact hy
    · exact hz

/-- The state of the sifting up. -/
structure Up (w wr : World) (R n : Nat) (M : List Cd) (g : Nat → Cd) (k : Nat) : Prop where
  le : k < n
  at_ : HAt wr R n g
  good : ∀ j, j < n → Good w R (g j)
  perm : (L g n).Perm M
  ord : AlmostUp g n k
  grown : w.grownBy wr (some R)

theorem push_start {w : World} {R n : Nat} {g : Nat → Cd} {c : Cd} (o1 o2 : Obj) (hn : n < 320) (hg : HAt w R n g) (hc : Good w R c) (hgd : ∀ j, j < n → Good w R (g j)) (hh : IsHeap g n) :
    Up w (((w.alloc o1).alloc o2).setCells R (n * 3) [.pointer (some ⟨c.rb, c.ro, none⟩), .pointer (some ⟨c.tb, c.to, none⟩), .float .f64 c.ky]) R (n + 1) (c :: L g n) (upd g n c) n := by
  rw [setCells3]
  refine ⟨by omega, ((hg.alloc _).alloc _).store n c hn (.inr ⟨rfl, rfl⟩), fun j hj => ?_, perm_push g n c, almostUp_push hh c, ?_⟩
  · by_cases e : j = n
    · rw [e, upd_same]; exact hc
    · rw [upd_ne _ _ _ e]; exact hgd j (by omega)
  · exact grown_set _ _ rfl (grown_set _ _ rfl (grown_set _ _ rfl (grown_alloc (grown_alloc (World.grownBy.refl _ _) _) _)))

/-- The exchange. -/
theorem Up.swap {w wr : World} {R n : Nat} {M : List Cd} {g : Nat → Cd} {k p : Nat} (h : Up w wr R n M g k) (hk : 0 < k) (hn : n ≤ 320) (hpe : p = (k - 1) / 2) (hb : bef (g k) (g p) = true) (m : Nat) :
    Up w (((((((wr.drewN m).setCell ⟨R, k * 3, none⟩ (rp (g p))).setCell ⟨R, k * 3 + 1, none⟩ (tp (g p))).setCell ⟨R, k * 3 + 2, none⟩ (kv (g p))).setCell ⟨R, p * 3, none⟩ (rp (g k))).setCell ⟨R, p * 3 + 1, none⟩ (tp (g k))).setCell ⟨R, p * 3 + 2, none⟩ (kv (g k))) R n M (swp g k p) p := by
  subst hpe
  have hl := h.le
  have hp : (k - 1) / 2 < n := by omega
  have hr : rk (g k) < rk (g ((k - 1) / 2)) := by
    rw [bef_rk _ _ (h.good k hl).2.2.2 (h.good _ hp).2.2.2] at hb
    simpa using hb
  refine ⟨hp, ((h.at_.drewN m).store k _ (by omega) (.inl (Nat.le_refl _))).store _ _ (by omega) (.inl (Nat.le_refl _)), swp_all hl hp h.good, (perm_swp g hl hp).trans h.perm, almostUp_step h.ord hk hl hr, ?_⟩
  exact grown_set _ _ rfl (grown_set _ _ rfl (grown_set _ _ rfl (grown_set _ _ rfl (grown_set _ _ rfl (grown_set _ _ rfl (grown_drewN h.grown m))))))

theorem Up.stop {w wr : World} {R n : Nat} {M : List Cd} {g : Nat → Cd} {k : Nat} {p : Nat} (h : Up w wr R n M g k) (hpe : p = (k - 1) / 2) (hb : bef (g k) (g p) = false) : IsHeap g n := by
  subst hpe
  have hl := h.le
  rw [bef_rk _ _ (h.good k hl).2.2.2 (h.good _ (by omega)).2.2.2] at hb
  exact almostUp_stop h.ord (by simpa using hb)

set_option maxRecDepth 100000 in
set_option maxHeartbeats 1000000 in
theorem push_any (R n : Nat) (g : Nat → Cd) (c : Cd) (w : World) (hn : n < 320) (hg : HAt w R n g) (hc : Good w R c) (hgd : ∀ j, j < n → Good w R (g j)) (hh : IsHeap g n) :
    Calls Yba.prog 36 #[.slice (some ⟨R, 0, none⟩) n 320, .agg #[.pointer (some ⟨c.rb, c.ro, none⟩), .pointer (some ⟨c.tb, c.to, none⟩), .float .f64 c.ky]] w fun e w' =>
      e = .returned (.slice (some ⟨R, 0, none⟩) (n + 1) 320) ∧ ∃ g', HAt w' R (n + 1) g' ∧ (L g' (n + 1)).Perm (c :: L g n) ∧ IsHeap g' (n + 1) ∧ w.grownBy w' (some R) := by
  obtain ⟨i0, hi, hz0, hz1, hz2⟩ := info_parts Yba.info130
  have HG : Hid (HAt w R n g ∧ Good w R c ∧ (∀ j, j < n → Good w R (g j)) ∧ IsHeap g n) := ⟨hg, hc, hgd, hh⟩
  have hq3 : ∀ j, j < 3 → (((w.alloc (.cells #[.pointer (some ⟨c.rb, c.ro, none⟩), .pointer (some ⟨c.tb, c.to, none⟩), .float .f64 c.ky] 130)).alloc (.cells #[.pointer (some ⟨c.rb, c.ro, none⟩), .pointer (some ⟨c.tb, c.to, none⟩), .float .f64 c.ky] 130)).cell? ⟨R, 0 + n * i0.size + j, none⟩).isSome = true := fun j hj => by
    rw [hz1]; exact ((hg.alloc _).alloc _).some (by omega)
  have hq4 : ∀ j, j < 3 → ((w.alloc (.cells #[.pointer (some ⟨c.rb, c.ro, none⟩), .pointer (some ⟨c.tb, c.to, none⟩), .float .f64 c.ky] 130)).alloc (.cells #[.pointer (some ⟨c.rb, c.ro, none⟩), .pointer (some ⟨c.tb, c.to, none⟩), .float .f64 c.ky] 130)).frozen? ⟨R, 0 + n * i0.size + j, none⟩ = false := fun j hj => ((hg.alloc _).alloc _).frz _
  have HQ : Hid (_ ∧ _) := ⟨hq3, hq4⟩
  clear hq3 hq4 hg hc hgd hh
  go_enter Yba.func36, Yba.ntmps36
  go_wp2_with (at_builtin; refine wpList_append_room_src _ rfl _ _ 135 135 rfl 130 i0 Yba.underlying135 hi R 0 n 320 rfl (.slice (some ⟨w.heap.size + 1, 0, none⟩) 1 1) rfl 1 [.pointer (some ⟨c.rb, c.ro, none⟩), .pointer (some ⟨c.tb, c.to, none⟩), .float .f64 c.ky] ?q1 (by omega) HQ.out.1 HQ.out.2 ?q5)
  case q1 => rw [hz1]; exact push_src _ rfl rfl rfl
  clear HQ hi hz0 hz1 hz2
  go_loopw [5] (fun i wr => ∃ (k : Nat) (gk : Nat → Cd), i = .int .i64 k ∧ Up w wr R (n + 1) (c :: L g n) gk k) (fun i _ => (intOf i).toNat)
  case atStart => exact ⟨n, _, rfl, push_start _ _ hn HG.out.1 HG.out.2.1 HG.out.2.2.1 HG.out.2.2.2⟩
  case round =>
    obtain ⟨k, gk, rfl, V⟩ := hrel
    clear HG
    have hkn := V.le
    have HV : Hid (Up w wr R (n + 1) (c :: L g n) gk k) := V
    by_cases h0 : 0 < k
    · obtain ⟨p, hpe⟩ : ∃ p, p = (k - 1) / 2 := ⟨_, rfl⟩
      have hp : p < n + 1 := by omega
      have hpk : p < k := by omega
      have HP : Hid (p = (k - 1) / 2) := hpe
      have B := before_any R (n + 1) 320 k p (gk k) (gk p) wr hkn hp (by omega) (V.at_.c1 hkn) (V.at_.c2 hkn) (V.at_.c1 hp) (V.at_.c2 hp) ((V.good k hkn).cell V.grown) ((V.good _ hp).cell V.grown)
      have HB : Hid (Calls Yba.prog 38 #[.slice (some ⟨R, 0, none⟩) (n + 1) 320, .int .i64 k, .int .i64 p] wr fun e w' => e = .returned (.bool (bef (gk k) (gk p))) ∧ ∃ m, w' = wr.drewN m) := B
      clear B V hpe
      go_wp2_with fail
      rw [show (((k : Int) - 1) / 2) = (p : Int) from by rw [HP.out]; omega]
      refine HB.out.mono ?_
      rintro e w1 ⟨rfl, m, rfl⟩
      clear HB
      have hkc : (k : Int) < (n : Int) + 1 := by omega
      have hpc : (p : Int) < (n : Int) + 1 := by omega
      cases hbf : bef (gk k) (gk p) with
      | true =>
        have V := HV.out
        have a0 := V.at_.c0 hkn
        have a1 := V.at_.c1 hkn
        have a2 := V.at_.c2 hkn
        have b0 := V.at_.c0 hp
        have b1 := V.at_.c1 hp
        have b2 := V.at_.c2 hp
        have fz := V.at_.frz
        clear V
        go_wp2
        go_region
        clear a0 a1 a2 b0 b1 b2 fz
        go_wp2
        go_roundw
        case rel => exact ⟨p, _, rfl, HV.out.swap h0 (by omega) HP.out hbf _⟩
        case measure => simp [intOf]; omega
      | false =>
        go_wp2
        go_ret
        exact ⟨rfl, gk, HV.out.at_.drewN m, HV.out.perm, HV.out.stop HP.out hbf, grown_drewN HV.out.grown m⟩
    · obtain rfl : k = 0 := by omega
      clear V
      go_wp2
      go_ret
      exact ⟨rfl, gk, HV.out.at_, HV.out.perm, almostUp_zero HV.out.ord, HV.out.grown⟩

end Go.Proofs.Ybulkazxi
