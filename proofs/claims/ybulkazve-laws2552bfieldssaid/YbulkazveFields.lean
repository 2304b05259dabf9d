/-
  LawS2552BFields: THE WALK, at most 1024 widths.
-/
import Derived.Test.YbulkazveLayout
import Derived.Test.YbulkazvePlain
import Derived.Deep.OwnRows
import Derived.Lib.JoinLaws
namespace Go.Proofs.Ybulkazve
open Go.RowKit

theorem Yba.info27 : (Yba.prog.info? 27).map (fun i => (i.zero, i.size, i.bytes)) = some (some (.agg #[.string ⟨#[]⟩, .int .u64 0]), 2, 24) := by kernel_rfl

/-- The cells of the first k fields. -/
def fcells (nms : Nat → ByteArray) (bs : Nat → Nat) : Nat → List Value
  | 0 => []
  | k + 1 => fcells nms bs k ++ [.string (nms k), .int .u64 (bs k)]

theorem fcells_succ (nms : Nat → ByteArray) (bs : Nat → Nat) (k : Nat) {x : ByteArray} {y : Nat} (hx : nms k = x) (hy : bs k = y) : fcells nms bs k ++ [.string x, .int .u64 y] = fcells nms bs (k + 1) := by
  rw [← hx, ← hy]; rfl
theorem fcells_len (nms : Nat → ByteArray) (bs : Nat → Nat) : ∀ k, (fcells nms bs k).length = k * 2
  | 0 => rfl
  | k + 1 => by simp [fcells, fcells_len nms bs k]; omega
theorem fcells_at (nms : Nat → ByteArray) (bs : Nat → Nat) (k j : Nat) (h : j < k) : (fcells nms bs k)[j * 2]? = some (.string (nms j)) ∧ (fcells nms bs k)[j * 2 + 1]? = some (.int .u64 (bs j)) := by
  induction k with
  | zero => omega
  | succ k ih =>
    have hl := fcells_len nms bs k
    by_cases e : j = k
    · subst e
      simp only [fcells]
      rw [List.getElem?_append_right (by omega), List.getElem?_append_right (by omega), hl]
      simp
    · obtain ⟨i1, i2⟩ := ih (by omega)
      simp only [fcells]
      rw [List.getElem?_append_left (by omega), List.getElem?_append_left (by omega)]
      exact ⟨i1, i2⟩

theorem newLayout_lit (name : ByteArray) (ep tk : Int) (tb n F c : Nat) (bs : Nat → Nat) (w : World) (hn : n ≤ 1024) (hc : n + 1 ≤ c) (hc2 : c ≤ 2000) (hbs : ∀ j, j ≤ n → bs j ≤ 255) (htb : tb ≤ 255) (hF : F < w.heap.size) (nms : Nat → ByteArray)
    (hf0 : ∀ j, j ≤ n → w.cell? ⟨F, j * 2, none⟩ = some (.string (nms j)))
    (hf : ∀ j, j ≤ n → w.cell? ⟨F, j * 2 + 1, none⟩ = some (.int .u64 (bs j))) (nd sq : Nat) (hnd : sumN bs n = nd) (hsq : bs n = sq) :
    Calls Yba.prog 5 #[.string name, .int .i64 ep, .int .i64 tk, .int .u64 tb, .slice (some ⟨F, 0, none⟩) (n + 1) c] w fun e w' =>
      e = .returned (.agg #[.string name, .int .i64 ep, .int .i64 tk, .int .u64 tb, .int .u64 nd, .int .u64 sq, .slice (some ⟨F, 0, none⟩) (n + 1) c, .int .u64 ((nd : Int) + (sq : Int)), .int .u64 sq,
        .int .i64 (maxOf tb), .int .i64 (maxOf nd), .int .i64 (maxOf sq), .int .i64 (topOf tb nd sq)]) ∧ Below w.heap.size w w' := by
  subst hnd hsq
  exact newLayout_any name ep tk tb n F c bs w hn hc hc2 hbs htb hF nms hf0 hf

theorem mask_int (x : Int) (n : Nat) (w : World) (hx : x = n) (hn : n ≤ 1000000) :
    Calls Yba.prog 6 #[.int .u64 x] w fun e w' => e = .returned (.int .i64 (maskI n)) ∧ w' = w := by
  subst hx
  exact mask_any n w hn

theorem maxOf_mask (x : Nat) : maxOf x = maskI x := max_mask x
theorem topOf_small (tb nd sq : Nat) (h : tb + nd + sq ≤ 63) : maskI (tb + nd + sq) = topOf tb nd sq := (top_small tb nd sq h).symm
theorem topOf_large (tb nd sq : Nat) (h : 63 < tb + nd + sq) (h2 : tb + nd + sq ≤ 1000000) : 0 = topOf tb nd sq := (top_large tb nd sq h h2).symm

/-- The layout lies in block L, the fields in block F; of what was there nothing has turned. -/
def Lay (w wr : World) (L F k : Nat) (name : ByteArray) (ep tk : Int) (tb nd sq : Nat) (nms : Nat → ByteArray) (bs : Nat → Nat) : Prop :=
  wr.heap[L]? = some (.cells #[.string name, .int .i64 ep, .int .i64 tk, .int .u64 tb, .int .u64 nd, .int .u64 sq, .slice (some ⟨F, 0, none⟩) (k + 1) (k + 1), .int .u64 ((nd : Int) + (sq : Int)), .int .u64 sq,
        .int .i64 (maxOf tb), .int .i64 (maxOf nd), .int .i64 (maxOf sq), .int .i64 (topOf tb nd sq)] 31 (0, 0)) ∧
  (∀ j, j ≤ k → wr.cell? ⟨F, j * 2, none⟩ = some (.string (nms j))) ∧ (∀ j, j ≤ k → wr.cell? ⟨F, j * 2 + 1, none⟩ = some (.int .u64 (bs j))) ∧ Below w.heap.size w wr

theorem lay_drewN {w wr : World} {L F k : Nat} {name : ByteArray} {ep tk : Int} {tb nd sq : Nat} {nms : Nat → ByteArray} {bs : Nat → Nat} (h : Lay w wr L F k name ep tk tb nd sq nms bs) (n : Nat) : Lay w (wr.drewN n) L F k name ep tk tb nd sq nms bs :=
  ⟨h.1, h.2.1, h.2.2.1, below_drewN h.2.2.2 n⟩

set_option maxRecDepth 100000 in
set_option maxHeartbeats 1000000 in
theorem fields_walk (name : ByteArray) (ep tk : Int) (tb sq n ln : Nat) (aB aN : Option Addr) (cB cN bb ob bn on : Nat) (nms nn : Nat → ByteArray) (bs : Nat → Nat) (w : World)
    (hn : n ≤ 1024) (htb : tb ≤ 255) (hsq : sq ≤ 255) (hbs : ∀ j, j ≤ n → bs j ≤ 255) (hln : ln ≤ 9223372036854775807)
    (hbsn : Hid (bs n = sq)) (hnmn : Hid (nms n = ⟨#[115, 101, 113, 117, 101, 110, 99, 101]⟩))
    (hnm : Hid (∀ j, j < n → nms j = if j < ln then nn j else ⟨#[]⟩))
    (hB : Hid (0 < n → aB = some ⟨bb, ob, none⟩)) (hN : Hid (0 < ln → aN = some ⟨bn, on, none⟩)) (hbb : 0 < n → bb < w.heap.size) (hbn : 0 < ln → bn < w.heap.size)
    (hb : ∀ j, j < n → w.cell? ⟨bb, ob + j, none⟩ = some (.int .u8 (bs j)))
    (hs : ∀ j, j < ln → w.cell? ⟨bn, on + j, none⟩ = some (.string (nn j))) :
    Calls Yba.prog 3 #[.string name, .int .i64 ep, .int .i64 tk, .int .u8 tb, .slice aN ln cN, .slice aB n cB, .int .u8 sq] w fun e w' => e = .returned (.bool true) ∧ Below w.heap.size w w' := by
  obtain ⟨i0, hi, hz0, hz1, hz2⟩ := info_parts Yba.info27
  have hmk : ∀ wx, (Instr.makeSlice 24 (.int .i64 0) (.int .i64 ((n : Int) + 1))).run Yba.prog wx = .ok (.slice (some ⟨wx.heap.size, 0, none⟩) 0 (n + 1)) (wx.alloc (.cells (madeCells #[.string ⟨#[]⟩, .int .u64 0] ((n + 1) * 2)) 27)) := fun wx => by
    have h := run_make (P := Yba.prog) wx 24 27 i0 _ Yba.underlying24 hi hz0 .i64 .i64 0 ((n : Int) + 1) (Int.le_refl _) (by omega) (by rw [hz2]; omega) (by omega)
    rw [hz1] at h
    simpa [Value.cells] using h
  go_enter Yba.func3, Yba.ntmps3
  go_wp2
  clear hmk
  go_loopw [15, 16, 35] (fun f nd i wr => ∃ k : Nat, k ≤ n ∧ i = .int .i64 k ∧ f = .slice (some ⟨w.heap.size, 0, none⟩) k (n + 1) ∧ nd = .int .u64 (sumN bs k) ∧ wr.ownsRow w.heap.size 27 2 (.slice (some ⟨w.heap.size, 0, none⟩) k (n + 1)) k (fcells nms bs k) ∧ Below w.heap.size w wr)
      (fun _ _ i _ => n - (intOf i).toNat)
  case atStart => exact ⟨0, Nat.zero_le _, rfl, rfl, rfl, World.ownsRow_made w _ (n + 1) (Nat.le_refl _) (by unfold maxLen; omega) (size_madeCells _ _), (Below.refl _ w).alloc (Nat.le_refl _) _⟩
  case round =>
    obtain ⟨k, hk, rfl, rfl, rfl, hown, hbel⟩ := hrel
    have hsz : w.heap.size < wr.heap.size := (hown.lt _ rfl).2
    have hsm := sumN_le bs n hbs k hk
    by_cases hlt : k < n
    · obtain rfl := hB.out (by omega)
      have g0 : wr.cell? ⟨bb, ob + k, none⟩ = some (.int .u8 (bs k)) := (hbel.cell (p := ⟨bb, _, none⟩) (hbb (by omega))).trans (hb k hlt)
      have hb1 := hbs k hk
      by_cases hkl : k < ln
      · obtain rfl := hN.out (by omega)
        have g1 : wr.cell? ⟨bn, on + k, none⟩ = some (.string (nn k)) := (hbel.cell (p := ⟨bn, _, none⟩) (hbn (by omega))).trans (hs k hkl)
        have HC := hnm.out k hlt
        rw [if_pos hkl] at HC
        have HC' : Hid (nms k = nn k) := HC
        clear HC hb hs
        go_wp2_with (at_builtin; refine wpList_append_fits _ rfl _ _ 24 rfl w.heap.size 27 i0 2 Yba.underlying24 hi hz1 w.heap.size k (n + 1) (fcells nms bs k) rfl (hown.alloc _) ⟨wr.heap.size, 0, none⟩ 1 1 [.string (nn k), .int .u64 (bs k)] rfl rfl ?q2 ?q3 ?q4 ?q5)
        case q3 => exact ⟨rfl, rfl⟩
        case q5 =>
          intro w1 hown' hgrow
          rw [fcells_succ nms bs k HC'.out rfl] at hown'
          have hbel' : Below w.heap.size w w1 := (hbel.alloc (by omega) _).grown hgrow (by simp; omega) (fun j e => by cases e; exact Nat.le_refl _)
          clear hgrow hown hbel
          go_wp2
          go_roundw
          case rel => exact ⟨k + 1, by omega, by go_num, rfl, by go_num, hown', hbel'⟩
          case measure => simp [intOf]; omega
      · have HC := hnm.out k hlt
        rw [if_neg hkl] at HC
        have HC' : Hid (nms k = ⟨#[]⟩) := HC
        clear HC hb hs
        go_wp2_with (at_builtin; refine wpList_append_fits _ rfl _ _ 24 rfl w.heap.size 27 i0 2 Yba.underlying24 hi hz1 w.heap.size k (n + 1) (fcells nms bs k) rfl (hown.alloc _) ⟨wr.heap.size, 0, none⟩ 1 1 [.string ⟨#[]⟩, .int .u64 (bs k)] rfl rfl ?r2 ?r3 ?r4 ?r5)
        case r3 => exact ⟨rfl, rfl⟩
        case r5 =>
          intro w1 hown' hgrow
          rw [fcells_succ nms bs k HC'.out rfl] at hown'
          have hbel' : Below w.heap.size w w1 := (hbel.alloc (by omega) _).grown hgrow (by simp; omega) (fun j e => by cases e; exact Nat.le_refl _)
          clear hgrow hown hbel
          go_wp2
          go_roundw
          case rel => exact ⟨k + 1, by omega, by go_num, rfl, by go_num, hown', hbel'⟩
          case measure => simp [intOf]; omega
    · obtain rfl : k = n := by omega
      clear hb hs hnm hB hN
      go_wp2_with (at_builtin; refine wpList_append_fits _ rfl _ _ 24 rfl w.heap.size 27 i0 2 Yba.underlying24 hi hz1 w.heap.size k (k + 1) (fcells nms bs k) rfl (hown.alloc _) ⟨wr.heap.size, 0, none⟩ 1 1 [.string ⟨#[115, 101, 113, 117, 101, 110, 99, 101]⟩, .int .u64 sq] rfl rfl ?s2 ?s3 ?s4 ?s5)
      case s2 =>
        intro j u hj
        match j, hj with
        | 0, hj => simp at hj; subst hj; simp [Addr.add, go_sem]
        | 1, hj => simp at hj; subst hj; simp [Addr.add, go_sem]
      case s3 => intro u hu; simp at hu; rcases hu with rfl | rfl <;> rfl
      case s4 => exact Nat.le_refl _
      case s5 =>
        intro w1 hown' hgrow
        rw [fcells_succ nms bs k hnmn.out hbsn.out] at hown'
        have hbel' : Below w.heap.size w w1 := (hbel.alloc (by omega) _).grown hgrow (by simp; omega) (fun j e => by cases e; exact Nat.le_refl _)
        have hF : w.heap.size < w1.heap.size := (hown'.lt _ rfl).2
        have f0 : ∀ j, j ≤ k → w1.cell? ⟨w.heap.size, j * 2, none⟩ = some (.string (nms j)) := fun j hj => by
          rw [hown'.cellAt _ (by omega)]; exact (fcells_at nms bs (k + 1) j (by omega)).1
        have f1 : ∀ j, j ≤ k → w1.cell? ⟨w.heap.size, j * 2 + 1, none⟩ = some (.int .u64 (bs j)) := fun j hj => by
          rw [hown'.cellAt _ (by omega)]; exact (fcells_at nms bs (k + 1) j (by omega)).2
        have HF : Hid ((∀ j, j ≤ k → w1.cell? ⟨w.heap.size, j * 2, none⟩ = some (.string (nms j))) ∧ ∀ j, j ≤ k → w1.cell? ⟨w.heap.size, j * 2 + 1, none⟩ = some (.int .u64 (bs j))) := ⟨f0, f1⟩
        have HBS : Hid (∀ j, j ≤ k → bs j ≤ 255) := hbs
        clear hgrow hown hbel hown' f0 f1 hbs hsz
        go_wp2_with fail
        refine (newLayout_lit name ep tk tb k w.heap.size (k + 1) bs w1 hn (Nat.le_refl _) (by omega) HBS.out htb hF nms HF.out.1 HF.out.2 _ sq rfl hbsn.out).mono ?_
        rintro e w2 ⟨rfl, hb2⟩
        have hz2 : w.heap.size < w2.heap.size := by have := hb2.size; omega
        have hnd : sumN bs k ≤ 300000 := by omega
        have hz3 : w1.heap.size ≤ w2.heap.size := hb2.size
        go_upto_region 20 with fail
        generalize sumN bs k = nd at *
        have HL : Hid (Lay w (w2.alloc (.cells #[.string name, .int .i64 ep, .int .i64 tk, .int .u64 tb, .int .u64 nd, .int .u64 sq, .slice (some ⟨w.heap.size, 0, none⟩) (k + 1) (k + 1), .int .u64 ((nd : Int) + (sq : Int)), .int .u64 sq,
          .int .i64 (maxOf tb), .int .i64 (maxOf nd), .int .i64 (maxOf sq), .int .i64 (topOf tb nd sq)] 31)) w2.heap.size w.heap.size k name ep tk tb nd sq nms bs) := by
          refine ⟨heap_alloc_new w2 _, fun j hj => ?_, fun j hj => ?_, ((hbel'.trans (hb2.mono (by omega))).alloc (by omega) _)⟩
          · rw [World.cell?_of_block (w := w2) (a := ⟨w.heap.size, j * 2, none⟩) (Below.heap_alloc w2 _ _ (by omega)), hb2.cell (p := ⟨w.heap.size, j * 2, none⟩) hF]; exact HF.out.1 j hj
          · rw [World.cell?_of_block (w := w2) (a := ⟨w.heap.size, j * 2 + 1, none⟩) (Below.heap_alloc w2 _ _ (by omega)), hb2.cell (p := ⟨w.heap.size, j * 2 + 1, none⟩) hF]; exact HF.out.2 j hj
        clear hbel' hb2 HF HBS
        go_upto_if 83 with fail
        go_cut [24] from 26 (fun t wc => t = .int .i64 (topOf tb nd sq) ∧ Lay w wc w2.heap.size w.heap.size k name ep tk tb nd sq nms bs)
        case first =>
          by_cases ht : tb + nd + sq ≤ 63
          · have HT : Hid (maskI (tb + nd + sq) = topOf tb nd sq) := topOf_small tb nd sq ht
            go_wp2_with (go_at_call 6; refine (mask_int _ (tb + nd + sq) _ (by omega) (by omega)).mono ?_; rintro e w' ⟨rfl, rfl⟩)
            go_meet
            case rel => exact ⟨val_i64 HT.out, HL.out⟩
          · have HT : Hid (0 = topOf tb nd sq) := topOf_large tb nd sq (by omega) (by omega)
            go_wp2_with fail
            go_meet
            case rel => exact ⟨val_i64 HT.out, HL.out⟩
        case rest =>
          obtain ⟨rfl, hl⟩ := hcut
          have c6 : wc.cell? ⟨w2.heap.size, 6, none⟩ = some (.slice (some ⟨w.heap.size, 0, none⟩) (k + 1) (k + 1)) := by rw [cell_block hl.1]; rfl
          go_wp2
          clear c6
          go_loopw [25] (fun i wr => ∃ j : Nat, j ≤ k + 1 ∧ i = .int .i64 j ∧ Lay w wr w2.heap.size w.heap.size k name ep tk tb nd sq nms bs) (fun i _ => k + 1 - (intOf i).toNat)
          case atStart => exact ⟨0, Nat.zero_le _, rfl, hl⟩
          case round =>
            obtain ⟨j, hj, rfl, hlr⟩ := hrel
            clear hl
            by_cases hlt : j < k + 1
            · have c6 : wr.cell? ⟨w2.heap.size, 6, none⟩ = some (.slice (some ⟨w.heap.size, 0, none⟩) (k + 1) (k + 1)) := by rw [cell_block hlr.1]; rfl
              have p0 := hlr.2.1 j (by omega)
              have p1 := hlr.2.2.1 j (by omega)
              have HL2 : Hid (Lay w wr w2.heap.size w.heap.size k name ep tk tb nd sq nms bs) := hlr
              have hji : (j : Int) < (k : Int) + 1 := by omega
              clear hlr
              go_wp2
              go_quiet (fail)
              go_wp2
              go_roundw
              case rel => exact ⟨j + 1, by omega, by go_num, lay_drewN HL2.out _⟩
              case measure => simp [intOf]; omega
            · obtain rfl : j = k + 1 := by omega
              have c0 : wr.cell? ⟨w2.heap.size, 0, none⟩ = some (.string name) := by rw [cell_block hlr.1]; rfl
              have c1 : wr.cell? ⟨w2.heap.size, 1, none⟩ = some (.int .i64 ep) := by rw [cell_block hlr.1]; rfl
              have c2 : wr.cell? ⟨w2.heap.size, 2, none⟩ = some (.int .i64 tk) := by rw [cell_block hlr.1]; rfl
              have c3 : wr.cell? ⟨w2.heap.size, 3, none⟩ = some (.int .u64 tb) := by rw [cell_block hlr.1]; rfl
              have c4 : wr.cell? ⟨w2.heap.size, 4, none⟩ = some (.int .u64 nd) := by rw [cell_block hlr.1]; rfl
              have c5 : wr.cell? ⟨w2.heap.size, 5, none⟩ = some (.int .u64 sq) := by rw [cell_block hlr.1]; rfl
              have c7 : wr.cell? ⟨w2.heap.size, 7, none⟩ = some (.int .u64 ((nd : Int) + (sq : Int))) := by rw [cell_block hlr.1]; rfl
              have c8 : wr.cell? ⟨w2.heap.size, 8, none⟩ = some (.int .u64 sq) := by rw [cell_block hlr.1]; rfl
              have c9 : wr.cell? ⟨w2.heap.size, 9, none⟩ = some (.int .i64 (maxOf tb)) := by rw [cell_block hlr.1]; rfl
              have c10 : wr.cell? ⟨w2.heap.size, 10, none⟩ = some (.int .i64 (maxOf nd)) := by rw [cell_block hlr.1]; rfl
              have c11 : wr.cell? ⟨w2.heap.size, 11, none⟩ = some (.int .i64 (maxOf sq)) := by rw [cell_block hlr.1]; rfl
              have c12 : wr.cell? ⟨w2.heap.size, 12, none⟩ = some (.int .i64 (topOf tb nd sq)) := by rw [cell_block hlr.1]; rfl
              have m1 : (maxOf tb == maskI tb) = true := by simp [maxOf_mask]
              have m2 : (maxOf nd == maskI nd) = true := by simp [maxOf_mask]
              have m3 : (maxOf sq == maskI sq) = true := by simp [maxOf_mask]
              have hwr : IntKind.u64.wrap ((nd : Int) + (sq : Int)) = (nd : Int) + (sq : Int) := by rw [u64_wrap]; omega
              have hbl : Hid (Below w.heap.size w wr) := hlr.2.2.2
              clear hlr
              go_wp2_with fail
              go_quiet ((go_at_call 6; exact Calls.quiet_of_same (mask_any _ _ (by omega))))
              go_wp2
              go_ret
              exact ⟨rfl, below_drewN hbl.out _⟩

end Go.Proofs.Ybulkazve
