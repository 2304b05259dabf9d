/-
  reach, for a leaf under a ranking function.
-/
import Derived.Test.YbulkazxiSt2
import Derived.Deep.RegionHeldLaw
import Derived.Deep.RegionLaw
import Derived.Deep.DrawnRows
namespace Go.Proofs.Ybulkazxi
open Go.RowKit
attribute [local go_sem] run_store_float func_eq_nil nil_eq_nil
attribute [local go_sem ↓] Go.wp_at_zero Go.wp_at_succ

theorem key_nan (e : En) (he : e.ok) : (!feq e.key e.key) = e.nan := by
  cases hn : e.nan with
  | true =>
    have e1 : e.key = NAN := by unfold En.key; rw [hn, if_pos rfl]
    rw [e1]
    unfold feq
    have : FloatKind.f64.format.order NAN NAN = none := by
      show (Ieee.double.read NAN).order (Ieee.double.read NAN) = none
      rw [nan_read]; rfl
    rw [this]; rfl
  | false =>
    have h := key_fin e he hn
    rw [feq_fin h h]
    simp

/-- A neighbour laid into a block of its own, ahead of the append. -/
theorem laid_nb {X : Cx} {w0 w : World} {k : Nat} {cl : List Value} {un : Nat} {ul : List Value} {gn : Nat} {gl : List Value} {cv uv gv : Value} {m : Nat} {g : Nat → Cd} {qs : List Nat} (h : St2 X w0 w k cl un ul gn gl cv uv gv m g qs) (r : R4) (it : Int) (ky : Nat) :
    (w.drew.alloc (.cells (nb r it ky).toArray 66)).ownsRow X.base 66 6 uv un ul ∧ (∀ j u, (nb r it ky)[j]? = some u → (w.drew.alloc (.cells (nb r it ky).toArray 66)).cell? ((⟨w.heap.size, 0, none⟩ : Addr).add j) = some u) ∧ (∀ u ∈ nb r it ky, u.oneCell' = true) ∧ X.base ≤ (w.drew.alloc (.cells (nb r it ky).toArray 66)).heap.size := by
  have h1 : w.drew.ownsRow X.base 66 6 uv un ul := h.a.u.own
  refine ⟨own_alloc h1 _, World.news_of_block (heap_alloc_new w.drew _), ?_, ?_⟩
  · intro u hu; simp [nb] at hu; rcases hu with rfl | rfl | rfl | rfl | rfl | rfl <;> rfl
  · rw [size_alloc]; exact Nat.le_succ_of_le h.f.le

theorem laid_cell {X : Cx} {w0 w : World} {k : Nat} {cl : List Value} {un : Nat} {ul : List Value} {gn : Nat} {gl : List Value} {cv uv gv : Value} {m : Nat} {g : Nat → Cd} {qs : List Nat} (h : St2 X w0 w k cl un ul gn gl cv uv gv m g qs) {o : Obj} {w1 : World} (hg : (w.drew.alloc o).grownBy w1 uv.ownBlock) (b : Nat) (off : Nat) (hb : b < X.base) :
    w1.cell? ⟨b, off, none⟩ = w.cell? ⟨b, off, none⟩ ∧ w1.frozen? ⟨b, off, none⟩ = w.frozen? ⟨b, off, none⟩ := by
  have c1 : Chg (fun j => uv.ownBlock = some j) w w1 := Chg.step (((Chg.refl _ w).drew).alloc _) (Chg.of_grown hg) (fun j hj => .inl hj)
  have hn : ¬ uv.ownBlock = some b := fun he => absurd (own_lt h.a.u.own he).1 (Nat.not_le.2 hb)
  have hl : b < w.heap.size := Nat.lt_of_lt_of_le hb h.f.le
  exact ⟨c1.cell (p := ⟨b, off, none⟩) hl hn, c1.frozen (p := ⟨b, off, none⟩) hl hn⟩

theorem round_unr {X : Cx} {w0 w : World} {k : Nat} {cl : List Value} {un : Nat} {ul : List Value} {gn : Nat} {gl : List Value} {cv uv gv : Value} {m : Nat} {g : Nat → Cd} {qs : List Nat} (h : St2 X w0 w k cl un ul gn gl cv uv gv m g qs) (ok : X.ok) {o : Obj} {w1 : World} {ga capa un' : Nat} {ul' : List Value}
    (hx : w1.ownsRow X.base 66 6 (.slice (some ⟨ga, 0, none⟩) un' capa) un' ul' ∧ (w.drew.alloc o).grownBy w1 uv.ownBlock ∧ (uv.ownBlock = some ga ∨ ga = w.heap.size + 1) ∧ ga < w1.heap.size) :
    St2 X w0 (w1.setCell ⟨X.K, 4, none⟩ (.slice (some ⟨ga, 0, none⟩) un' capa)) k cl un' ul' gn gl cv (.slice (some ⟨ga, 0, none⟩) un' capa) gv m g qs := by
  obtain ⟨hown, hgrow, hat, _⟩ := hx
  obtain ⟨hAcc, hGrew⟩ := h.a.u.put (((Chg.refl _ w).drew).alloc o) hown hgrow (fun g' hg' => by
    have : ga = g' := by simpa [Value.ownBlock] using hg'
    subst this
    rcases hat with hh | hh
    · exact .inl hh
    · right; rw [hh]; simp)
  refine h.growU ok hAcc hGrew ?_ ?_
  · rw [World.cell?_setCell_other _ _ _ _ (by simp)]; exact (laid_cell h hgrow X.K 2 ok.e7).1
  · rw [World.cell?_setCell_other _ _ _ _ (by simp)]; exact (laid_cell h hgrow X.K 3 ok.e7).1

set_option maxRecDepth 100000 in
set_option maxHeartbeats 2000000 in
theorem reach2_any (X : Cx) (ok : X.ok) (w0 w : World) (g : Nat → Cd) (gn : Nat) (gl : List Value) (cv uv gv : Value) (hS : St2 X w0 w 0 [] 0 [] gn gl cv uv gv 0 g []) :
    Calls Yba.prog 22 #[.slice (some ⟨X.R, 0, none⟩) 0 320, .pointer (some ⟨X.N, 0, none⟩), .pointer (some ⟨X.K, 0, none⟩)] w fun e w' =>
      ∃ m g' cv' uv', e = .returned (.slice (some ⟨X.R, 0, none⟩) m 320) ∧ St2 X w0 w' X.n (callsL X.n) (nansTo X.es X.n).length (nbs X.es (nansTo X.es X.n)) gn gl cv' uv' gv m g' (rankTo X.es X.n) := by
  have HF : Hid (St2 X w0 w 0 [] 0 [] gn gl cv uv gv 0 g []) := hS
  have hF := hS.f
  have n40 := ok.n40
  have OK : Hid X.ok := ok
  have H1 : Hid (∀ wx, NodeAt wx X.N (leafN X.es 0 X.n X.n) → Calls Yba.prog 32 #[.pointer (some ⟨X.N, 0, none⟩)] wx fun e w' => e = .returned (.int .u64 0) ∧ w' = wx) := fun wx h => chained_any _ _ _ h.chainc
  have H2 : Hid (∀ wx, NodeAt wx X.N (leafN X.es 0 X.n X.n) → Calls Yba.prog 33 #[.pointer (some ⟨X.N, 0, none⟩)] wx fun e w' => e = .returned (.int .i64 X.n) ∧ w' = wx) := fun wx h => used_any _ _ _ n40 h.usedc
  have a0 : w.cell? ⟨X.N, 0, none⟩ = some (.bool true) := hF.nd.leafc
  have a1 := hF.k3
  clear hF hS ok
  go_enter Yba.func22, Yba.ntmps22
  go_wp2_with (first | (go_at_call 32; refine (H1.out _ HF.out.f.nd).mono ?_; rintro e w' ⟨rfl, rfl⟩) | (go_at_call 33; refine (H2.out _ HF.out.f.nd).mono ?_; rintro e w' ⟨rfl, rfl⟩))
  clear a0 a1 H1 H2
  go_loopw [0, 76] (fun q i wr => ∃ (k m : Nat) (g' : Nat → Cd) (cv' uv' : Value), k ≤ X.n ∧ q = .slice (some ⟨X.R, 0, none⟩) m 320 ∧ i = .int .i64 k ∧ St2 X w0 wr k (callsL k) (nansTo X.es k).length (nbs X.es (nansTo X.es k)) gn gl cv' uv' gv m g' (rankTo X.es k)) (fun _ i _ => X.n - (intOf i).toNat)
  case atStart => exact ⟨0, 0, g, cv, uv, Nat.zero_le _, rfl, rfl, HF.out⟩
  case round =>
    obtain ⟨k, m, g', cv', uv', hk, rfl, rfl, hS⟩ := hrel
    have hF := hS.f
    have HS : Hid (St2 X w0 wr k (callsL k) (nansTo X.es k).length (nbs X.es (nansTo X.es k)) gn gl cv' uv' gv m g' (rankTo X.es k)) := hS
    clear HF
    by_cases hlt : k < X.n
    · have hk40 : k < 40 := by omega
      have hkc : (k : Int) < (X.n : Int) := by omega
      have s2 := hF.k2
      have HSl : Hid (∀ wx, Calls Yba.prog 34 #[.pointer (some ⟨X.N, 0, none⟩), .int .i64 k, .int .u64 0, .int .u64 0] wx fun e w' => e = .returned (.tuple #[.pointer (some ⟨X.N, 6 + k * 4, none⟩), .pointer (some ⟨X.N, 166 + k * 3 + 1, none⟩), .pointer (some ⟨X.N, 166 + k * 3, none⟩)]) ∧ ∃ n, w' = wx.drewN n) := fun wx => slot_any X.N k 0 wx hk40
      have HL : Hid (∀ wx, wx.cell? ⟨X.N, 166 + k * 3, none⟩ = some (.int .u64 0) → Calls Yba.prog 35 #[.pointer (some ⟨X.N, 166 + k * 3, none⟩)] wx fun e w' => e = .returned (.int .u64 0) ∧ w' = wx) := fun wx h => load_any _ _ _ _ h
      have n0 := hF.nd.st hk40
      obtain ⟨r0, r1, r2, r3, r4, r5⟩ := hF.slot OK.out hlt
      have s3 := hF.k3
      have HD : Hid (∀ q, Calls Yba.prog 12 #[.agg #[.float .f64 (X.es k).rect.a, .float .f64 (X.es k).rect.b, .float .f64 (X.es k).rect.c, .float .f64 (X.es k).rect.d], .int .i64 k, .pointer (some ⟨X.C, 0, none⟩), .pointer (some ⟨X.E, 0, none⟩)] (wr.drewN q) fun e w' =>
        e = .returned (.float .f64 (X.es k).key) ∧ ∃ cv', St2 X w0 w' (k + 1) (callsL k ++ [.int .i64 (k : Nat)]) (nansTo X.es k).length (nbs X.es (nansTo X.es k)) gn gl cv' uv' gv m g' (rankTo X.es k)) := fun q => (hS.drewN OK.out q).dist OK.out hlt
      have HN : Hid (∀ wx, Calls Yba.prog 37 #[.float .f64 (X.es k).key] wx fun r w' => r = .returned (.bool (X.es k).nan) ∧ w' = wx) := fun wx => by
        have h := isNaN_any (X.es k).key wx
        rw [key_nan _ (hF.es.2 k hlt).1] at h
        exact h
      clear hF hS
      go_wp2_with (go_at_call 34; refine (HSl.out _).mono ?_; rintro e w' ⟨rfl, m1, rfl⟩)
      go_quiet ((go_at_call 35; exact (HL.out (wr.drewN (m1 + _)) n0).mono (fun _ _ h => ⟨h.1, _, h.2⟩)))
      go_wp2
      go_region_held (fun w' => w'.cell? ⟨X.K, 3, none⟩ = some (.func (.func 12) #[] #[.pointer (some ⟨X.C, 0, none⟩), .pointer (some ⟨X.E, 0, none⟩)]) ∧ w'.cell? ⟨X.N, 6 + k * 4, none⟩ = some (.float .f64 (X.es k).rect.a) ∧ w'.cell? ⟨X.N, 6 + k * 4 + 1, none⟩ = some (.float .f64 (X.es k).rect.b) ∧ w'.cell? ⟨X.N, 6 + k * 4 + 2, none⟩ = some (.float .f64 (X.es k).rect.c) ∧ w'.cell? ⟨X.N, 6 + k * 4 + 3, none⟩ = some (.float .f64 (X.es k).rect.d) ∧
          w'.cell? ⟨X.N, 166 + k * 3 + 1 + 1, none⟩ = some (.int .i64 (k : Nat)))
        (go_keep)
        (first | (go_at_call 12; refine (HD.out (m1 + nq + 1)).mono ?_; rintro e w' ⟨rfl, cv2, hS2⟩
                  obtain ⟨q0, q1, q2, q3, q4, q5⟩ := hS2.f.slot OK.out hlt
                  have q6 := hS2.f.k3
                  have HS2 : Hid (St2 X w0 w' (k + 1) (callsL k ++ [.int .i64 (k : Nat)]) (nansTo X.es k).length (nbs X.es (nansTo X.es k)) gn gl cv2 uv' gv m g' (rankTo X.es k)) := hS2
                  clear hS2))
      clear s2 n0 r0 r1 r2 r3 r4 r5 s3 HD HSl HL q6 HS
      cases hnan : (X.es k).nan with
      | true =>
        obtain ⟨p, c, rfl⟩ := own_slice HS2.out.a.u.own
        obtain ⟨i0, hi0, hz0, hz1, hz2⟩ := info_parts Yba.info66
        have HW := laid_nb HS2.out (X.es k).rect (k : Nat) (X.es k).key
        obtain ⟨un, hun⟩ : ∃ un, un = (nansTo X.es k).length := ⟨_, rfl⟩
        have hunl : un ≤ k := by rw [hun]; exact Nat.le_trans (List.length_filter_le _ _) (by simp)
        have hml : un + 1 ≤ maxLen := by unfold maxLen; omega
        have HU : Hid (un = (nansTo X.es k).length) := hun
        rw [← hun] at HS2 HW
        have HWH : Hid (_ ∧ _ ∧ _ ∧ _) := HW
        have u0 := HS2.out.a.u.cell
        have u1 := HS2.out.a.u.frz
        have hKN : X.K ≠ X.N := Ne.symm OK.out.k1.2.2
        clear HW hun
        go_wp2_with (go_at_call 37; refine (HN.out _).mono ?_; rintro e w'' ⟨rfl, hw⟩; obtain rfl := hw.symm; rw [hnan])
        have hKs : X.K < w'.heap.size := Nat.lt_of_lt_of_le OK.out.e7 HS2.out.f.le
        have hNs : X.N < w'.heap.size := Nat.lt_of_lt_of_le OK.out.e3 HS2.out.f.le
        go_region_law ((refine step_append_lies _ (by rfl) _ _ _ (by rfl) X.base 66 i0 (.agg #[.float .f64 0, .float .f64 0, .float .f64 0, .float .f64 0, .int .i64 0, .float .f64 0]) 6 48 Yba.underlying63 hi0 hz0 hz1 hz2 rfl (by omega) (.slice p un c) un (nbs X.es (nansTo X.es k)) (by rfl) HWH.out.1 ⟨w'.heap.size, 0, none⟩ 1 1 (nb (X.es k).rect (k : Nat) (X.es k).key) (by rfl) rfl HWH.out.2.1 HWH.out.2.2.1 (by omega) hml (by omega) HWH.out.2.2.2 (w'.heap.size + 1) (by simp) ?_; intro ga capa w1 hown1 hgrow hat hlt1; have HX : Hid (_ ∧ _ ∧ _ ∧ _) := ⟨hown1, hgrow, hat, hlt1⟩; have z5 := (laid_cell HS2.out hgrow X.K 4 OK.out.e7).1.trans u0; have z6 := (laid_cell HS2.out hgrow X.K 4 OK.out.e7).2.trans u1; clear hown1 hgrow hat hlt1))
        all_goals go_wp2
        all_goals
          have hR := round_unr HS2.out OK.out HX.out
          have hu := HU.out
          refine ⟨⟨k + 1, m, g', cv2, .slice (some ⟨ga, 0, none⟩) (un + 1) capa, by omega, rfl, by simp, ?_⟩, by simp [intOf]; omega⟩
          rw [callsL_succ, nansTo_succ, rankTo_succ, hnan, if_pos rfl, if_pos rfl, List.append_nil, List.length_append, ← hu]
          have e1 : nbs X.es (nansTo X.es k ++ [k]) = nbs X.es (nansTo X.es k) ++ nb (X.es k).rect (k : Nat) (X.es k).key := by simp [nbs]
          rw [e1]
          exact hR
      | false =>
        have hgd := HS2.out.f.good OK.out hlt hnan
        have hml : m ≤ k := by rw [HS2.out.q.len]; exact Nat.le_trans (List.length_filter_le _ _) (by simp)
        have HP : Hid (Calls Yba.prog 36 #[.slice (some ⟨X.R, 0, none⟩) m 320, .agg #[.pointer (some ⟨X.N, 6 + k * 4, none⟩), .pointer (some ⟨X.N, 166 + k * 3 + 1, none⟩), .float .f64 (X.es k).key]] w' fun e w3 => e = .returned (.slice (some ⟨X.R, 0, none⟩) (m + 1) 320) ∧ ∃ g3, St2 X w0 w3 (k + 1) (callsL k ++ [.int .i64 (k : Nat)]) (nansTo X.es k).length (nbs X.es (nansTo X.es k)) gn gl cv2 uv' gv (m + 1) g3 (k :: rankTo X.es k)) := by
          have hQ := HS2.out.q
          refine (push_any X.R m g' (X.cd k) w' (by omega) hQ.at_ hgd (hQ.good HS2.out.f OK.out) hQ.heap).mono ?_
          rintro e w3 ⟨rfl, g3, h1, h2, h3, h4⟩
          refine ⟨rfl, g3, HS2.out.queue OK.out h4 ⟨h1, h3, h2.trans (List.Perm.cons _ hQ.perm), ?_⟩⟩
          intro i hi
          rcases List.mem_cons.1 hi with rfl | hi
          · exact ⟨hlt, hnan⟩
          · exact hQ.all i hi
        clear hgd
        go_wp2_with (go_at_call 37; refine (HN.out _).mono ?_; rintro e w'' ⟨rfl, hw⟩; obtain rfl := hw.symm; rw [hnan])
        refine HP.out.mono ?_
        rintro e w3 ⟨rfl, g3, hS3⟩
        go_wp2
        refine ⟨⟨k + 1, m + 1, g3, cv2, uv', by omega, rfl, by simp, ?_⟩, by simp [intOf]; omega⟩
        rw [callsL_succ, nansTo_succ, rankTo_succ, hnan, if_neg Bool.false_ne_true, if_neg Bool.false_ne_true, List.append_nil]
        have hq := hS3.q
        refine ⟨hS3.f, hS3.a, hq.at_, hq.heap, hq.perm.trans ?_, ?_⟩
        · exact List.Perm.map _ (List.perm_append_singleton k _).symm
        · intro i hi
          exact hq.all i ((List.perm_append_singleton k _).mem_iff.1 hi)
    · obtain rfl : k = X.n := by omega
      clear hF hS
      go_wp2
      go_ret
      exact ⟨m, g', cv', uv', rfl, HS.out⟩

end Go.Proofs.Ybulkazxi
