/-
  zzs2556aleaf: a leaf of the entries from 'from' to 'to'.
-/
import Derived.Test.YbulkazxiNodeMem
import Derived.Test.YbulkazxiNode
import Derived.Deep.Cut
import Derived.Deep.CutRange
import Derived.RegionTactic
import Derived.BigRegion
import Derived.Deep.RegionHeld
namespace Go.Proofs.Ybulkazxi
open Go.RowKit
attribute [local go_sem] run_store_float

set_option maxHeartbeats 400000 in
theorem store_any (b o : Nat) (y : Int) (u : Value) (w : World) (h : w.cell? ⟨b, o, none⟩ = some u) (hz : w.frozen? ⟨b, o, none⟩ = false) :
    Calls Yba.prog 7 #[.pointer (some ⟨b, o, none⟩), .int .i32 y] w fun e w' => e = .returned (.tuple #[]) ∧ w' = w.setCell ⟨b, o, none⟩ (.int .i32 y) := by
  have hl := run_call_store (P := Yba.prog) Yba.func21 (by kernel_rfl) (by kernel_rfl) (by kernel_rfl) (by kernel_rfl) (k := .i32) (y := y) h hz
  go_enter Yba.func7, Yba.ntmps7
  go_wp2
  exact bodyPost_end (results_none Yba.results7 _ _ _) rfl ⟨rfl, rfl⟩

/-- An entry's rectangle, as bits. -/
def En.rect (e : En) : R4 := ⟨fl e.x, fl e.y, fl (e.x + e.wd), fl (e.y + e.ht)⟩

/-- The entries lie five cells each from ⟨b, off⟩ on. -/
def EsAt (w : World) (b off n : Nat) (es : Nat → En) : Prop :=
  b < w.heap.size ∧ ∀ j, j < n → (es j).ok ∧ w.cell? ⟨b, off + j * 5, none⟩ = some (.int .i8 (es j).x) ∧ w.cell? ⟨b, off + j * 5 + 1, none⟩ = some (.int .i8 (es j).y) ∧ w.cell? ⟨b, off + j * 5 + 2, none⟩ = some (.int .u8 (es j).wd) ∧
    w.cell? ⟨b, off + j * 5 + 3, none⟩ = some (.int .u8 (es j).ht) ∧ w.cell? ⟨b, off + j * 5 + 4, none⟩ = some (.int .i8 (es j).d)

theorem EsAt.below {w w' : World} {b off n : Nat} {es : Nat → En} (h : EsAt w b off n es) {B : Nat} (hB : b < B) (hb : Below B w w') : EsAt w' b off n es := by
  refine ⟨Nat.lt_of_lt_of_le h.1 hb.size, fun j hj => ?_⟩
  obtain ⟨h0, h1, h2, h3, h4, h5⟩ := h.2 j hj
  exact ⟨h0, (hb.cell (p := ⟨b, _, none⟩) hB).trans h1, (hb.cell (p := ⟨b, _, none⟩) hB).trans h2, (hb.cell (p := ⟨b, _, none⟩) hB).trans h3, (hb.cell (p := ⟨b, _, none⟩) hB).trans h4, (hb.cell (p := ⟨b, _, none⟩) hB).trans h5⟩

/-- The leaf of the entries f, f + 1, .. after k of them. -/
def leafN (es : Nat → En) (f k : Nat) (u : Int) : Nd :=
  { leaf := true, used := u, rect := fun i => if i < k then (es (f + i)).rect else ⟨0, 0, 0, 0⟩, child := fun _ => none, item := fun i => if i < k then ((f + i : Nat) : Int) else 0 }

set_option maxRecDepth 100000 in
set_option maxHeartbeats 1000000 in
theorem leaf_any (b off n c f t : Nat) (es : Nat → En) (w : World) (hes : EsAt w b off n es) (hft : f ≤ t) (htn : t ≤ n) (h40 : t - f ≤ 40) (hn : n ≤ 1000) :
    Calls Yba.prog 6 #[.slice (some ⟨b, off, none⟩) n c, .int .i64 f, .int .i64 t] w fun r w' => r = .returned (.pointer (some ⟨w.heap.size, 0, none⟩)) ∧ NodeAt w' w.heap.size (leafN es f (t - f) ((t - f : Nat) : Int)) ∧ Below w.heap.size w w' := by
  have HE : Hid (EsAt w b off n es) := hes
  have hbw : b < w.heap.size := hes.1
  clear hes
  go_enter Yba.func6, Yba.ntmps6
  go_upto_region 2 with fail
  go_cut [8] from 9 (fun i wc => i = .int .i64 f ∧ NodeAt wc w.heap.size (leafN es f 0 0) ∧ Below w.heap.size w wc)
  case first =>
    go_wp2_with fail
    go_meet
    case rel => exact ⟨rfl, node_leaf (heap_alloc_new w _), (Below.refl _ w).alloc (Nat.le_refl _) _⟩
  case rest =>
    obtain ⟨rfl, hN, hB⟩ := hcut
    go_wp2
    go_loopw [8] (fun i wr => ∃ k : Nat, f + k ≤ t ∧ i = .int .i64 ((f + k : Nat) : Int) ∧ NodeAt wr w.heap.size (leafN es f k 0) ∧ Below w.heap.size w wr) (fun i _ => t - (intOf i).toNat)
    case atStart => exact ⟨0, by omega, rfl, hN, hB⟩
    case round =>
      obtain ⟨k, hk, rfl, hNr, hBr⟩ := hrel
      clear hN hB
      obtain ⟨m, hm⟩ : ∃ m, m = f + k := ⟨_, rfl⟩
      rw [← hm]
      have HM : Hid (m = f + k) := hm
      by_cases hlt : m < t
      · have hkm : k < 40 := by omega
        have hmn : m < n := by omega
        have hfm : f ≤ m := by omega
        have HK : Hid (NodeAt wr w.heap.size (leafN es f k 0) ∧ Below w.heap.size w wr) := ⟨hNr, hBr⟩
        have hsz : w.heap.size < wr.heap.size := hNr.lt
        obtain ⟨eok, e0, e1, e2, e3, e4⟩ := (HE.out.below hbw hBr).2 m hmn
        have fz := hNr.frz
        have r0 := hNr.ra hkm
        have r1 := hNr.rb hkm
        have r2 := hNr.rc hkm
        have r3 := hNr.rd hkm
        have r6 := hNr.itc hkm
        have mc : (m : Int) < (n : Int) := by omega
        have HR : Hid (∀ wx, Calls Yba.prog 10 #[.agg #[.int .i8 (es m).x, .int .i8 (es m).y, .int .u8 (es m).wd, .int .u8 (es m).ht, .int .i8 (es m).d]] wx fun r w' =>
          r = .returned (.agg #[.float .f64 (fl (es m).x), .float .f64 (fl (es m).y), .float .f64 (fl ((es m).x + (es m).wd)), .float .f64 (fl ((es m).y + (es m).ht))]) ∧ Below wx.heap.size wx w') := fun wx => rect_any (es m) wx eok
        have hnb : w.heap.size ≠ b := Nat.ne_of_gt hbw
        have hmk : (m : Int) - (f : Int) = (k : Int) := by omega
        have hk4 : (k : Int) < 40 := by omega
        have hwr : IntKind.i64.wrap (k : Int) = (k : Int) := by simp [IntKind.wrap, IntKind.bits, IntKind.signed]; omega
        have hk5 : ¬ (40 : Int) ≤ (k : Int) := by omega
        have hk6 : ((k : Int) < 0) = False := eq_false (by omega)
        clear hNr hBr hm eok
        go_wp2
        go_region_held (fun w' => w'.cell? ⟨b, off + m * 5, none⟩ = some (.int .i8 (es m).x) ∧ w'.cell? ⟨b, off + m * 5 + 1, none⟩ = some (.int .i8 (es m).y) ∧ w'.cell? ⟨b, off + m * 5 + 2, none⟩ = some (.int .u8 (es m).wd) ∧ w'.cell? ⟨b, off + m * 5 + 3, none⟩ = some (.int .u8 (es m).ht) ∧ w'.cell? ⟨b, off + m * 5 + 4, none⟩ = some (.int .i8 (es m).d))
          (go_keep)
          (first | (go_at_call 10; refine (HR.out _).mono ?_; rintro e w' ⟨rfl, hbx⟩
                    have q0 := (hbx.cell (p := ⟨w.heap.size, 6 + k * 4, none⟩) hsz).trans r0
                    have q1 := (hbx.cell (p := ⟨w.heap.size, 6 + k * 4 + 1, none⟩) hsz).trans r1
                    have q2 := (hbx.cell (p := ⟨w.heap.size, 6 + k * 4 + 2, none⟩) hsz).trans r2
                    have q3 := (hbx.cell (p := ⟨w.heap.size, 6 + k * 4 + 3, none⟩) hsz).trans r3
                    have q6 := (hbx.cell (p := ⟨w.heap.size, 166 + k * 3 + 2, none⟩) hsz).trans r6
                    have qf := fun o => (hbx.frozen (p := ⟨w.heap.size, o, none⟩) hsz).trans (fz o)
                    have p0 := (hbx.cell (p := ⟨b, off + m * 5, none⟩) (Nat.lt_trans hbw hsz)).trans e0
                    have p1 := (hbx.cell (p := ⟨b, off + m * 5 + 1, none⟩) (Nat.lt_trans hbw hsz)).trans e1
                    have p2 := (hbx.cell (p := ⟨b, off + m * 5 + 2, none⟩) (Nat.lt_trans hbw hsz)).trans e2
                    have p3 := (hbx.cell (p := ⟨b, off + m * 5 + 3, none⟩) (Nat.lt_trans hbw hsz)).trans e3
                    have p4 := (hbx.cell (p := ⟨b, off + m * 5 + 4, none⟩) (Nat.lt_trans hbw hsz)).trans e4))
        go_wp2
        have hm := HM.out
        obtain ⟨hNr, hBr⟩ := HK.out
        refine ⟨⟨k + 1, by omega, by rw [hm]; simp; omega, ?_, ?_⟩, ?_⟩
        · have h1 := ((NodeAt.of_block (hNr.drewN 1) (hbx.block _ hsz)).setRect k (es m).rect hkm).setItem k m hkm
          refine cast ?_ h1
          congr 1
          show Nd.mk _ _ _ _ _ = Nd.mk _ _ _ _ _
          congr 1
          · funext i
            by_cases e : i = k
            · subst e; simp [leafN, upd_same, hm]
            · simp only [leafN, upd_ne _ _ _ e]
              have : i < k ↔ i < k + 1 := by omega
              simp only [this]
          · funext i
            by_cases e : i = k
            · subst e; simp [leafN, upd_same, hm]
            · simp only [leafN, upd_ne _ _ _ e]
              have : i < k ↔ i < k + 1 := by omega
              simp only [this]
        · have h2 : Below w.heap.size w w' := (hBr.drew).trans (hbx.mono (Nat.le_of_lt hsz))
          exact ((((h2.setCell (Nat.le_refl _) _).setCell (Nat.le_refl _) _).setCell (Nat.le_refl _) _).setCell (Nat.le_refl _) _).setCell (Nat.le_refl _) _
        · simp [intOf]; omega
      · have hks : k = t - f := by omega
        have hst := store_any w.heap.size 3 ((t : Int) - (f : Int)) _ wr hNr.usedc (hNr.frz 3)
        have HS : Hid (Calls Yba.prog 7 #[.pointer (some ⟨w.heap.size, 3, none⟩), .int .i32 ((t : Int) - (f : Int))] wr fun e w' => e = .returned (.tuple #[]) ∧ w' = wr.setCell ⟨w.heap.size, 3, none⟩ (.int .i32 ((t : Int) - (f : Int)))) := hst
        clear hst
        have HK : Hid (NodeAt wr w.heap.size (leafN es f k 0) ∧ Below w.heap.size w wr) := ⟨hNr, hBr⟩
        clear hNr hBr
        go_wp2_with (go_at_call 7; refine HS.out.mono ?_; rintro e w' ⟨rfl, rfl⟩)
        go_ret
        obtain ⟨hNr, hBr⟩ := HK.out
        subst hks
        refine ⟨rfl, ?_, hBr.setCell (Nat.le_refl _) _⟩
        have h1 := hNr.setUsed ((t : Int) - (f : Int))
        have hu : (t : Int) - (f : Int) = ((t - f : Nat) : Int) := by omega
        rw [hu] at h1 ⊢
        exact h1

end Go.Proofs.Ybulkazxi
