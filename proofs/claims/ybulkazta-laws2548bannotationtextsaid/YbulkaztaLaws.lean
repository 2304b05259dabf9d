/-
  THE TWO LAWS' WALKS, and how the argument 'in' lies in memory.
-/
import Derived.Test.YbulkaztaBuildWalk
import Derived.ProofKit
import Derived.OpenShut
import Derived.ShutString
import Derived.ChangeOld
import Derived.Below
import Derived.Deep.Slices
import Derived.Lib.SmallJoins
import Derived.LaidEqlPtr
namespace Go.Proofs.Ybulkazta
open Go.ChangeShapes Go.WideShapes Go.ChangeAt Go.RowKit

theorem Yba.info37 : (Yba.prog.info? 37).map (fun i => (i.zero, i.size, i.bytes)) = some (some (.agg #[.int .i64 0, .string ⟨#[]⟩, .int .i64 0, .int .i64 0, .string ⟨#[]⟩, .string ⟨#[]⟩]), 6, 72) := by kernel_rfl
theorem Yba.cells40 : Yba.prog.cellsOf 40 = 4 := by kernel_rfl
theorem Yba.cells5 : Yba.prog.cellsOf 5 = 1 := by kernel_rfl
theorem Yba.cells4 : Yba.prog.cellsOf 4 = 1 := by kernel_rfl
theorem Yba.cells9 : Yba.prog.cellsOf 9 = 1 := by kernel_rfl

/-- The slice 'in' is empty, or its elements lie four cells each from ⟨b, off⟩ on. -/
def IsAnns (w : World) (a : Option Addr) (n : Nat) (xn xk : Nat → Int) (xh : Nat → Bool) (xt : Nat → ByteArray) : Prop :=
  n = 0 ∨ ∃ b off, a = some ⟨b, off, none⟩ ∧ b < w.heap.size ∧
    (∀ j, j < n → w.cell? ⟨b, off + j * 4, none⟩ = some (.int .u8 (xn j))) ∧ (∀ j, j < n → w.cell? ⟨b, off + j * 4 + 1, none⟩ = some (.bool (xh j))) ∧
    (∀ j, j < n → w.cell? ⟨b, off + j * 4 + 2, none⟩ = some (.int .u8 (xk j))) ∧ (∀ j, j < n → w.cell? ⟨b, off + j * 4 + 3, none⟩ = some (.string (xt j))) ∧
    (∀ j, j < n → 0 ≤ xn j ∧ xn j ≤ 255) ∧ (∀ j, j < n → 0 ≤ xk j ∧ xk j ≤ 255)

theorem bd_u8 {n : Int} (h : (Lit.int .u8 n).wf = true) : 0 ≤ n ∧ n ≤ 255 := by
  simp [Lit.wf, IntKind.min, IntKind.max, IntKind.signed, IntKind.bits] at h
  omega

theorem open_anns {H : Type} {enc : TypeId × Value → H} {w : World} {fuel : Nat} {a : Option Addr} {len cap : Nat} {x : DataW H × List MemPlace}
    (h : DataW.trod enc Yba.prog w 0 (fun _ => true) true fuel 22 [.slice a len cap] = some x) : ∃ xn xk xh xt, IsAnns w a len xn xk xh xt := by
  by_cases hn : len = 0
  · exact ⟨fun _ => 0, fun _ => 0, fun _ => false, fun _ => ByteArray.empty, .inl hn⟩
  rcases Deep.open_slice Yba.underlying22 h with ⟨hcs, _⟩ | ⟨ad, l, c, m, f, D, Pl, hcs, _, hl, _, hm, _, hx⟩
  · simp at hcs; omega
  · simp at hcs
    obtain ⟨rfl, rfl, rfl⟩ := hcs
    simp only [if_true] at hm
    subst hm
    rw [Yba.cells40] at hx
    have one : ∀ i, i < len → ∃ q : Int × Int × Bool × ByteArray, w.cell? (ad.add (i * 4)) = some (.int .u8 q.1) ∧ w.cell? ((ad.add (i * 4)).add 1) = some (.bool q.2.2.1) ∧ w.cell? ((ad.add (i * 4)).add 2) = some (.int .u8 q.2.1) ∧
        w.cell? ((ad.add (i * 4)).add 3) = some (.string q.2.2.2) ∧ (0 ≤ q.1 ∧ q.1 ≤ 255) ∧ (0 ≤ q.2.1 ∧ q.2.1 ≤ 255) := by
      intro i hi
      obtain ⟨cs, h1, h2⟩ := hx i (by omega)
      obtain ⟨_, hlen, hc⟩ := World.cells?_some h1
      obtain ⟨y0, y1, y2, y3, g, _, _, t0, t1, t2, t3⟩ := Joins.trod_struct4 Yba.underlying40 h2
      match cs, hlen with
      | [c0, c1, c2, c3], _ =>
        simp [Yba.cells5, Yba.cells4, Yba.cells9] at t0 t1 t2 t3
        obtain ⟨n0, e0, _, w0⟩ := DataW.trod_int Yba.underlying5 t0
        obtain ⟨b1, e1, _⟩ := DataW.trod_bool Yba.underlying4 t1
        obtain ⟨n2, e2, _, w2⟩ := DataW.trod_int Yba.underlying5 t2
        obtain ⟨s3, e3, _⟩ := DataW.trod_string Yba.underlying9 t3
        simp at e0 e1 e2 e3
        subst e0 e1 e2 e3
        have d0 := hc 0 (by omega)
        have d1 := hc 1 (by omega)
        have d2 := hc 2 (by omega)
        have d3 := hc 3 (by omega)
        simp [Addr.add] at d0
        exact ⟨(n0, n2, b1, s3), by simpa [Addr.add] using d0, by simpa using d1, by simpa using d2, by simpa using d3, bd_u8 w0, bd_u8 w2⟩
    obtain ⟨q, hq⟩ := Deep.choose_lt (α := Int × Int × Bool × ByteArray) one
    obtain ⟨b, off, spot⟩ := ad
    have c0 := (hq 0 (by omega)).1
    have hspot : spot = none := by simpa [Addr.add] using World.cell?_spot c0
    subst hspot
    refine ⟨fun i => (q i).1, fun i => (q i).2.1, fun i => (q i).2.2.1, fun i => (q i).2.2.2, .inr ⟨b, off, rfl, ?_, fun j hj => ?_, fun j hj => ?_, fun j hj => ?_, fun j hj => ?_, fun j hj => (hq j hj).2.2.2.2.1, fun j hj => (hq j hj).2.2.2.2.2⟩⟩
    · exact World.block_lt_of_cell? w _ (by simpa [Addr.add] using c0)
    · have := (hq j hj).1; rwa [add_plain] at this
    · have := (hq j hj).2.1; rwa [add_plain, add_plain] at this
    · have := (hq j hj).2.2.1; rwa [add_plain, add_plain] at this
    · have := (hq j hj).2.2.2.1; rwa [add_plain, add_plain] at this

/-! ### The empty slice -/

set_option maxHeartbeats 400000 in
theorem build_zero (a : Option Addr) (c : Nat) (w : World) :
    Calls Yba.prog 5 #[.slice a 0 c] w fun e w' =>
      e = .returned (.tuple #[.slice (some ⟨w.heap.size, 0, none⟩) 0 0, .slice (some ⟨w.heap.size + 1, 0, none⟩) 0 0]) ∧ Below w.heap.size w w' := by
  have hm1 := run_make_room (P := Yba.prog) 24 41 (.pointer none) 8 Yba.underlying24 Yba.info41 rfl .i64 .i64 0 (by omega) (by omega)
  have hm2 := run_make_row' (P := Yba.prog) 25 29 (.pointer none) 8 Yba.underlying25 Yba.info29 rfl .i64 .i64 0 (by omega) (by omega)
  simp only [Int.ofNat_zero] at hm1 hm2
  go_enter Yba.func5, Yba.ntmps5
  go_wp2
  go_loop [4, 16] (fun l i => l = .slice (some ⟨w.heap.size, 0, none⟩) 0 0 ∧ i = .int .i64 0) (fun _ _ => 0)
  case atStart => exact ⟨rfl, rfl⟩
  case round =>
    obtain ⟨rfl, rfl⟩ := hrel
    go_wp2
    go_ret2
    exact ⟨rfl, ((Below.refl _ w).alloc (Nat.le_refl _) _).alloc (by simp) _⟩

set_option maxHeartbeats 400000 in
theorem want_zero (a v : Option Addr) (c c2 n2 : Nat) (q : ByteArray) (w : World) :
    Calls Yba.prog 7 #[.slice a 0 c, .slice v n2 c2, .string q] w fun e w' => e = .returned (.pointer none) ∧ w' = w := by
  go_enter Yba.func7, Yba.ntmps7
  go_wp2
  go_loop [11] (fun i => i = .int .i64 0) (fun _ => 0)
  case atStart => rfl
  case round =>
    subst hrel
    go_wp2
    go_ret
    exact ⟨rfl, rfl⟩

/-! ### What the two ways of asking answer, once the lists are built -/

/-- Both ways answer with one pointer; where it is not nil, its text can be read. -/
def Answers (w1 : World) (a : Option Addr) (n c : Nat) (L V : Value) : Prop :=
  ∀ q : ByteArray, ∃ r : Option Addr,
    Calls Yba.prog 7 #[.slice a n c, V, .string q] w1 (fun e w' => e = .returned (.pointer r) ∧ w' = w1) ∧
    Calls Yba.prog 8 #[L, .string q] w1 (fun e w' => e = .returned (.pointer r) ∧ w' = w1) ∧
    (r = none ∨ ∃ v t, r = some ⟨v, 0, none⟩ ∧ w1.cell? ⟨v, 4, none⟩ = some (.string t))

/-- The first index with a property, or none. -/
theorem first_or_none (p : Nat → Bool) (n : Nat) : (∀ j, j < n → p j = false) ∨ ∃ m, m < n ∧ (∀ j, j < m → p j = false) ∧ p m = true := by
  induction n with
  | zero => exact .inl fun j hj => by omega
  | succ n ih =>
    rcases ih with h | ⟨m, hm, h1, h2⟩
    · cases hp : p n with
      | true => exact .inr ⟨n, by omega, h, hp⟩
      | false =>
        refine .inl fun j hj => ?_
        by_cases e : j = n
        · rw [e]; exact hp
        · exact h j (by omega)
    · exact .inr ⟨m, by omega, h1, h2⟩

theorem cell_block {w : World} {b o : Nat} {cs : Array Value} {t : TypeId} {m : Nat × Nat} (h : w.heap[b]? = some (.cells cs t m)) : w.cell? ⟨b, o, none⟩ = cs[o]? := by
  simp [World.cell?, h]

theorem answers_built {w w1 : World} {n c : Nat} {a : Option Addr} {xn xk : Nat → Int} {xh : Nat → Bool} {xt : Nat → ByteArray} {ap : Nat → Nat} {vp : Nat → Option Nat}
    {b off : Nat} (hn : n ≤ 1024) (hb : b < w.heap.size) (ha : a = some ⟨b, off, none⟩)
    (h0 : ∀ j, j < n → w.cell? ⟨b, off + j * 4, none⟩ = some (.int .u8 (xn j))) (hxn : ∀ j, j < n → 0 ≤ xn j ∧ xn j ≤ 255)
    (h : Built w w1 w.heap.size n n xn xk xh xt ap vp) :
    Answers w1 a n c (.slice (some ⟨w.heap.size, 0, none⟩) n n) (.slice (some ⟨w.heap.size + 1, 0, none⟩) n n) := by
  subst ha
  intro q
  have g0 : ∀ j, j < n → w1.cell? ⟨b, off + j * 4, none⟩ = some (.int .u8 (xn j)) := fun j hj => (h.below.cell (p := ⟨b, _, none⟩) hb).trans (h0 j hj)
  have hl : ∀ j, j < n → w1.cell? ⟨w.heap.size, j, none⟩ = some (.pointer (some ⟨ap j, 0, none⟩)) := fun j hj => by
    rw [h.own.cellAt j (by omega)]
    simp [ptrs, hj]
  have ha : ∀ j, j < n → w1.cell? ⟨ap j, 0, none⟩ = some (.string (nm (xn j))) := fun j hj => by
    rw [cell_block (h.ann j hj).2]; rfl
  have hv : ∀ j, j < n → w1.cell? ⟨ap j, 4, none⟩ = some (optr (vp j)) := fun j hj => by
    rw [cell_block (h.ann j hj).2]; rfl
  have hw : ∀ j, j < n → w1.cell? ⟨w.heap.size + 1, j, none⟩ = some (optr (vp j)) := fun j hj => by
    rw [h.row.cell hj, if_pos hj]
  rcases first_or_none (fun j => (nm (xn j)).toList == q.toList) n with hq | ⟨m, hm, hq, hqm⟩
  · exact ⟨none, want_none b off n c _ n xn q w1 hn g0 hxn hq, sv_none _ n n ap (fun j => nm (xn j)) q w1 hn hl ha hq, .inl rfl⟩
  · have v1 := hv m hm
    have v2 := hw m hm
    cases hx : xh m with
    | false =>
      have e := h.bare m hm hx
      rw [e] at v1 v2
      exact ⟨none, want_bare b off n c _ n m xn q w1 hn hm g0 hxn hq hqm v2, sv_bare _ n n m ap (fun j => nm (xn j)) q w1 hn hm hl ha hq hqm v1, .inl rfl⟩
    | true =>
      obtain ⟨v, e, _, hblk⟩ := h.full m hm hx
      rw [e] at v1 v2
      have k0 : w1.cell? ⟨v, 0, none⟩ = some (.int .i64 (xk m % 6)) := by rw [cell_block hblk]; rfl
      have t0 : w1.cell? ⟨v, 4, none⟩ = some (.string (xt m)) := by rw [cell_block hblk]; rfl
      by_cases hk : xk m % 6 = 1
      · rw [hk] at k0
        exact ⟨some ⟨v, 0, none⟩, want_string b off n c _ n m xn q w1 hn hm g0 hxn hq hqm v v2 k0, sv_string _ n n m ap (fun j => nm (xn j)) q w1 hn hm hl ha hq hqm v v1 k0, .inr ⟨v, _, rfl, t0⟩⟩
      · have hk1 : (xk m % 6 == 1) = false := by simpa using hk
        exact ⟨none, want_other b off n c _ n m xn q w1 hn hm g0 hxn hq hqm v _ v2 k0 hk1, sv_other _ n n m ap (fun j => nm (xn j)) q w1 hn hm hl ha hq hqm v _ v1 k0 hk1, .inl rfl⟩

theorem build_all (a : Option Addr) (n c : Nat) (xn xk : Nat → Int) (xh : Nat → Bool) (xt : Nat → ByteArray) (w : World) (hn : n ≤ 1024) (H : IsAnns w a n xn xk xh xt) :
    Calls Yba.prog 5 #[.slice a n c] w fun e w1 => e = .returned (.tuple #[.slice (some ⟨w.heap.size, 0, none⟩) n n, .slice (some ⟨w.heap.size + 1, 0, none⟩) n n]) ∧ Below w.heap.size w w1 ∧
      Answers w1 a n c (.slice (some ⟨w.heap.size, 0, none⟩) n n) (.slice (some ⟨w.heap.size + 1, 0, none⟩) n n) := by
  rcases H with rfl | ⟨b, off, rfl, hb, h0, h1, h2, h3, hxn, hxk⟩
  · refine (build_zero a c w).mono ?_
    rintro e w1 ⟨rfl, hbel⟩
    exact ⟨rfl, hbel, fun q => ⟨none, want_zero a _ c 0 0 q w1, sv_none w.heap.size 0 0 (fun _ => 0) (fun _ => ByteArray.empty) q w1 (by omega) (fun j hj => by omega) (fun j hj => by omega) (fun j hj => by omega), .inl rfl⟩⟩
  · refine (build_any b off n c xn xk xh xt w hn h0 h1 h2 h3 hxn hxk hb).mono ?_
    rintro e w1 ⟨rfl, ap, vp, hB⟩
    exact ⟨rfl, hB.below, answers_built hn hb rfl h0 hxn hB⟩

/-! ### The laws -/

set_option maxHeartbeats 400000 in
theorem first_walk (a : Option Addr) (n c : Nat) (q : Int) (xn xk : Nat → Int) (xh : Nat → Bool) (xt : Nat → ByteArray) (w : World) (hn : n ≤ 1024) (q0 : 0 ≤ q) (q1 : q ≤ 255) (H : IsAnns w a n xn xk xh xt) :
    Calls Yba.prog 3 #[.slice a n c, .int .u8 q] w fun e w' => e = .returned (.bool true) ∧ Below w.heap.size w w' := by
  have HH : Hid (IsAnns w a n xn xk xh xt) := H
  clear H
  go_enter Yba.func3, Yba.ntmps3
  go_wp2_with fail
  refine (build_all a n c xn xk xh xt w hn HH.out).mono ?_
  rintro e w1 ⟨rfl, hb, hans⟩
  obtain ⟨r, h7, h8, hr⟩ := hans (nm q)
  have H7 : Hid (Calls Yba.prog 7 #[.slice a n c, .slice (some ⟨w.heap.size + 1, 0, none⟩) n n, .string (nm q)] w1 (fun e w' => e = .returned (.pointer r) ∧ w' = w1)) := h7
  have H8 : Hid (Calls Yba.prog 8 #[.slice (some ⟨w.heap.size, 0, none⟩) n n, .string (nm q)] w1 (fun e w' => e = .returned (.pointer r) ∧ w' = w1)) := h8
  clear h7 h8 hans HH
  go_wp2_with fail
  refine (name_any q _ q0 q1).mono ?_
  rintro e w' ⟨rfl, rfl⟩
  go_wp2_with fail
  refine H7.out.mono ?_
  rintro e w' ⟨rfl, rfl⟩
  go_wp2_with fail
  refine H8.out.mono ?_
  rintro e w' ⟨rfl, rfl⟩
  rcases hr with rfl | ⟨v, t, rfl, ht⟩
  · go_wp2
    go_ret
    exact ⟨by simp, hb⟩
  · obtain ⟨i0, hi, _⟩ := info_parts Yba.info37
    have heq := fun wx => run_eql_ptr_same (P := Yba.prog) (w := wx) ⟨v, 0, none⟩ Yba.underlying29 hi
    go_wp2
    go_ret
    exact ⟨by simp, hb⟩

set_option maxHeartbeats 400000 in
theorem annot_none (L : Value) (q : ByteArray) (w : World) (h : Hid (Calls Yba.prog 8 #[L, .string q] w (fun e w' => e = .returned (.pointer none) ∧ w' = w))) :
    Calls Yba.prog 9 #[L, .string q] w fun e w' => e = .returned (.string ⟨#[]⟩) ∧ w' = w := by
  go_enter Yba.func9, Yba.ntmps9
  go_wp2_with fail
  refine h.out.mono ?_
  rintro e w' ⟨rfl, rfl⟩
  go_wp2
  go_ret
  exact ⟨rfl, rfl⟩

set_option maxHeartbeats 400000 in
theorem annot_some (L : Value) (q : ByteArray) (w : World) (v : Nat) (t : ByteArray) (h : Hid (Calls Yba.prog 8 #[L, .string q] w (fun e w' => e = .returned (.pointer (some ⟨v, 0, none⟩)) ∧ w' = w))) (ht : w.cell? ⟨v, 4, none⟩ = some (.string t)) :
    Calls Yba.prog 9 #[L, .string q] w fun e w' => e = .returned (.string t) ∧ w' = w := by
  go_enter Yba.func9, Yba.ntmps9
  go_wp2_with fail
  refine h.out.mono ?_
  rintro e w' ⟨rfl, rfl⟩
  go_wp2
  go_ret
  exact ⟨rfl, rfl⟩

set_option maxHeartbeats 400000 in
theorem text_walk (a : Option Addr) (n c : Nat) (q : Int) (xn xk : Nat → Int) (xh : Nat → Bool) (xt : Nat → ByteArray) (w : World) (hn : n ≤ 1024) (q0 : 0 ≤ q) (q1 : q ≤ 255) (H : IsAnns w a n xn xk xh xt) :
    Calls Yba.prog 4 #[.slice a n c, .int .u8 q] w fun e w' => e = .returned (.bool true) ∧ Below w.heap.size w w' := by
  have HH : Hid (IsAnns w a n xn xk xh xt) := H
  clear H
  go_enter Yba.func4, Yba.ntmps4
  go_wp2_with fail
  refine (build_all a n c xn xk xh xt w hn HH.out).mono ?_
  rintro e w1 ⟨rfl, hb, hans⟩
  obtain ⟨r, h7, h8, hr⟩ := hans (nm q)
  have H7 : Hid (Calls Yba.prog 7 #[.slice a n c, .slice (some ⟨w.heap.size + 1, 0, none⟩) n n, .string (nm q)] w1 (fun e w' => e = .returned (.pointer r) ∧ w' = w1)) := h7
  have H8 : Hid (Calls Yba.prog 8 #[.slice (some ⟨w.heap.size, 0, none⟩) n n, .string (nm q)] w1 (fun e w' => e = .returned (.pointer r) ∧ w' = w1)) := h8
  clear h7 h8 hans HH
  go_wp2_with fail
  refine (name_any q _ q0 q1).mono ?_
  rintro e w' ⟨rfl, rfl⟩
  go_wp2_with fail
  refine H7.out.mono ?_
  rintro e w' ⟨rfl, rfl⟩
  clear H7
  rcases hr with rfl | ⟨v, t, rfl, ht⟩
  · go_wp2_with fail
    refine (annot_none _ _ _ H8).mono ?_
    rintro e w' ⟨rfl, rfl⟩
    go_wp2
    go_ret
    exact ⟨by simp, hb⟩
  · go_wp2_with fail
    refine (annot_some _ _ _ v t H8 ht).mono ?_
    rintro e w' ⟨rfl, rfl⟩
    go_wp2
    go_ret
    exact ⟨by simp, hb⟩

/-! ### More than 1024 -/

set_option maxHeartbeats 400000 in
theorem first_long (a : Option Addr) (n c : Nat) (q : Int) (w : World) (hn : 1024 < n) (hm : n ≤ maxLen) :
    Calls Yba.prog 3 #[.slice a n c, .int .u8 q] w fun e w' => e = .returned (.bool true) ∧ w' = w := by
  unfold maxLen at hm
  go_enter Yba.func3, Yba.ntmps3
  go_wp2
  go_ret
  exact ⟨rfl, rfl⟩

set_option maxHeartbeats 400000 in
theorem text_long (a : Option Addr) (n c : Nat) (q : Int) (w : World) (hn : 1024 < n) (hm : n ≤ maxLen) :
    Calls Yba.prog 4 #[.slice a n c, .int .u8 q] w fun e w' => e = .returned (.bool true) ∧ w' = w := by
  unfold maxLen at hm
  go_enter Yba.func4, Yba.ntmps4
  go_wp2
  go_ret
  exact ⟨rfl, rfl⟩

end Go.Proofs.Ybulkazta
