/-
  zzs2552alayout: what it hands back.
-/
import Derived.Test.YbulkazveFmtLayout
import Derived.Test.YbulkazveFmtDecode
namespace Go.Proofs.YbulkazveFmt
open Go.RowKit Go.Extern.Stop Go.Stop Go.Extern

/-- newLayout over two fields. -/
theorem newLayout_two (name n0 n1 : ByteArray) (ep tk : Int) (tb nb sb F : Nat) (w : World) (htb : tb ≤ 255) (hnb : nb ≤ 255) (hsb : sb ≤ 255) (hF : F < w.heap.size)
    (c0 : w.cell? ⟨F, 0, none⟩ = some (.string n0)) (c1 : w.cell? ⟨F, 1, none⟩ = some (.int .u64 nb)) (c2 : w.cell? ⟨F, 2, none⟩ = some (.string n1)) (c3 : w.cell? ⟨F, 3, none⟩ = some (.int .u64 sb)) :
    Calls Ybaf.prog 8 #[.string name, .int .i64 ep, .int .i64 tk, .int .u64 tb, .slice (some ⟨F, 0, none⟩) 2 2] w fun e w' =>
      e = .returned (.agg #[.string name, .int .i64 ep, .int .i64 tk, .int .u64 tb, .int .u64 nb, .int .u64 sb, .slice (some ⟨F, 0, none⟩) 2 2, .int .u64 ((nb : Int) + (sb : Int)), .int .u64 sb,
        .int .i64 (maxOf tb), .int .i64 (maxOf nb), .int .i64 (maxOf sb), .int .i64 (topOf tb nb sb)]) ∧ Below w.heap.size w w' := by
  have h := newLayout_any name ep tk tb 1 F 2 (fun j => if j = 0 then nb else sb) w (by omega) (by omega) (by omega) (fun j _ => by by_cases h : j = 0 <;> simp [h] <;> omega) htb hF (fun j => if j = 0 then n0 else n1)
    (fun j hj => by
      match j, hj with
      | 0, _ => exact c0
      | 1, _ => exact c2)
    (fun j hj => by
      match j, hj with
      | 0, _ => exact c1
      | 1, _ => exact c3)
  have e1 : sumN (fun j => if j = 0 then nb else sb) 1 = nb := by simp [sumN]
  rw [e1] at h
  exact h

theorem u64_wrap (x : Int) : IntKind.u64.wrap x = x % 18446744073709551616 := by
  simp [IntKind.wrap, IntKind.bits, IntKind.signed]

theorem rem_wrap (x m : Int) (hm : 0 < m) (hm2 : m ≤ 63) : ∃ k : Nat, IntKind.u64.wrap (1 + x % m) = (k : Int) ∧ 1 ≤ k ∧ (k : Int) ≤ m := by
  have h1 := Int.emod_nonneg x (Int.ne_of_gt hm)
  have h2 := Int.emod_lt_of_pos x hm
  refine ⟨(1 + x % m).toNat, ?_, by omega, by omega⟩
  rw [u64_wrap, Int.emod_eq_of_lt (by omega) (by omega)]
  omega

theorem rem_bd (x m : Int) (hm : 0 < m) : ∃ k : Nat, 1 + x % m = (k : Int) ∧ 1 ≤ k ∧ (k : Int) ≤ m := by
  have h1 := Int.emod_nonneg x (Int.ne_of_gt hm)
  have h2 := Int.emod_lt_of_pos x hm
  exact ⟨(1 + x % m).toNat, by omega, by omega, by omega⟩

/-- What zzs2552alayout hands back. -/
def layV (ep tk : Int) (tb nb sb F : Nat) : Array Value :=
  #[.string ⟨#[99, 117, 115, 116, 111, 109]⟩, .int .i64 ep, .int .i64 tk, .int .u64 tb, .int .u64 nb, .int .u64 sb, .slice (some ⟨F, 0, none⟩) 2 2, .int .u64 ((nb : Int) + (sb : Int)), .int .u64 sb,
        .int .i64 (maxOf tb), .int .i64 (maxOf nb), .int .i64 (maxOf sb), .int .i64 (topOf tb nb sb)]

set_option maxRecDepth 100000 in
set_option maxHeartbeats 400000 in
theorem layout_any (a b c : Nat) (ep tk : Int) (w : World) (ha : a ≤ 255) (hb : b ≤ 255) (hc : c ≤ 255) :
    Calls Ybaf.prog 5 #[.int .u8 a, .int .u8 b, .int .u8 c, .int .i64 ep, .int .i64 tk] w fun e w' => ∃ tb nb sb F : Nat, 1 ≤ tb ∧ 1 ≤ nb ∧ 1 ≤ sb ∧ tb + nb + sb ≤ 63 ∧ e = .returned (.tuple #[.agg (layV ep tk tb nb sb F), .int .u64 tb, .int .u64 nb, .int .u64 sb]) ∧ Below w.heap.size w w' := by
  go_enter Ybaf.func5, Ybaf.ntmps5
  go_upto_region 2 with fail
  obtain ⟨tb, h1, t1, t2⟩ := rem_bd a 61 (by omega)
  rw [h1]
  have H1 : Hid (1 + (a : Int) % 61 = tb) := h1
  clear h1
  have t3 : (0 : Int) < 62 - (tb : Int) := by omega
  have t4 : ((62 - (tb : Int)) == 0) = false := by simp; omega
  go_upto_region 3 with fail
  obtain ⟨nb, h2, n1, n2⟩ := rem_wrap b (62 - (tb : Int)) t3 (by omega)
  rw [h2]
  have H2 : Hid (IntKind.u64.wrap (1 + (b : Int) % (62 - (tb : Int))) = nb) := h2
  clear h2
  have t5 : (0 : Int) < 63 - (tb : Int) - (nb : Int) := by omega
  have t6 : ((63 - (tb : Int) - (nb : Int)) == 0) = false := by simp; omega
  go_upto_region 4 with fail
  obtain ⟨sb, h3, s1, s2⟩ := rem_wrap c (63 - (tb : Int) - (nb : Int)) t5 (by omega)
  rw [h3]
  have H3 : Hid (IntKind.u64.wrap (1 + (c : Int) % (63 - (tb : Int) - (nb : Int))) = sb) := h3
  clear h3
  go_cut [11, 12, 13] from 14 (fun x11 x12 x13 wc => x11 = .int .u64 tb ∧ x12 = .int .u64 nb ∧ x13 = .int .u64 sb ∧ wc.heap[w.heap.size]? = some (.cells (layV ep tk tb nb sb (w.heap.size + 1)) 27 (0, 0)) ∧ Below w.heap.size w wc)
  case first =>
    go_wp2_with fail
    refine (newLayout_two _ ⟨#[110, 111, 100, 101]⟩ ⟨#[115, 101, 113, 117, 101, 110, 99, 101]⟩ ep tk tb nb sb (w.heap.size + 1) _ (by omega) (by omega) (by omega) (by simp) (by exact (cell_second _ _ _ _ 0).1) (by exact (cell_second _ _ _ _ 1).1) (by exact (cell_second _ _ _ _ 2).1) (by exact (cell_second _ _ _ _ 3).1)).mono ?_
    rintro e w1 ⟨rfl, hb1⟩
    have hz : w1.heap[w.heap.size]? = some (.cells zeroCells 27 (0, 0)) := by
      rw [hb1.block _ (by simp; omega), Below.heap_alloc _ _ _ (by simp)]
      exact heap_alloc_new w _
    have hbel : Below w.heap.size w w1 := (((Below.refl _ w).alloc (Nat.le_refl _) _).alloc (by simp) _).trans (hb1.mono (by simp; omega))
    have z0 : w1.cell? ⟨w.heap.size, 0, none⟩ = some (zeroCells.getD 0 undef) := by rw [cell_block hz]; rfl
    have z1 : w1.cell? ⟨w.heap.size, 1, none⟩ = some (zeroCells.getD 1 undef) := by rw [cell_block hz]; rfl
    have z2 : w1.cell? ⟨w.heap.size, 2, none⟩ = some (zeroCells.getD 2 undef) := by rw [cell_block hz]; rfl
    have z3 : w1.cell? ⟨w.heap.size, 3, none⟩ = some (zeroCells.getD 3 undef) := by rw [cell_block hz]; rfl
    have z4 : w1.cell? ⟨w.heap.size, 4, none⟩ = some (zeroCells.getD 4 undef) := by rw [cell_block hz]; rfl
    have z5 : w1.cell? ⟨w.heap.size, 5, none⟩ = some (zeroCells.getD 5 undef) := by rw [cell_block hz]; rfl
    have z6 : w1.cell? ⟨w.heap.size, 6, none⟩ = some (zeroCells.getD 6 undef) := by rw [cell_block hz]; rfl
    have z7 : w1.cell? ⟨w.heap.size, 7, none⟩ = some (zeroCells.getD 7 undef) := by rw [cell_block hz]; rfl
    have z8 : w1.cell? ⟨w.heap.size, 8, none⟩ = some (zeroCells.getD 8 undef) := by rw [cell_block hz]; rfl
    have z9 : w1.cell? ⟨w.heap.size, 9, none⟩ = some (zeroCells.getD 9 undef) := by rw [cell_block hz]; rfl
    have z10 : w1.cell? ⟨w.heap.size, 10, none⟩ = some (zeroCells.getD 10 undef) := by rw [cell_block hz]; rfl
    have z11 : w1.cell? ⟨w.heap.size, 11, none⟩ = some (zeroCells.getD 11 undef) := by rw [cell_block hz]; rfl
    have z12 : w1.cell? ⟨w.heap.size, 12, none⟩ = some (zeroCells.getD 12 undef) := by rw [cell_block hz]; rfl
    simp only [zeroCells] at z0 z1 z2 z3 z4 z5 z6 z7 z8 z9 z10 z11 z12
    have fz : ∀ o, w1.frozen? ⟨w.heap.size, o, none⟩ = false := fun o => frozen_block hz
    have HZ : Hid (w1.heap[w.heap.size]? = some (.cells zeroCells 27 (0, 0)) ∧ Below w.heap.size w w1) := ⟨hz, hbel⟩
    clear hz hb1 hbel
    go_wp2_with fail
    go_meet
    case rel => exact ⟨rfl, rfl, rfl, keep13 HZ.out⟩
  case rest =>
    obtain ⟨rfl, rfl, rfl, hz, hbel⟩ := hcut
    have e0 : wc.cell? ⟨w.heap.size, 0, none⟩ = some ((layV ep tk tb nb sb (w.heap.size + 1)).getD 0 undef) := by rw [cell_block hz]; rfl
    have e1 : wc.cell? ⟨w.heap.size, 1, none⟩ = some ((layV ep tk tb nb sb (w.heap.size + 1)).getD 1 undef) := by rw [cell_block hz]; rfl
    have e2 : wc.cell? ⟨w.heap.size, 2, none⟩ = some ((layV ep tk tb nb sb (w.heap.size + 1)).getD 2 undef) := by rw [cell_block hz]; rfl
    have e3 : wc.cell? ⟨w.heap.size, 3, none⟩ = some ((layV ep tk tb nb sb (w.heap.size + 1)).getD 3 undef) := by rw [cell_block hz]; rfl
    have e4 : wc.cell? ⟨w.heap.size, 4, none⟩ = some ((layV ep tk tb nb sb (w.heap.size + 1)).getD 4 undef) := by rw [cell_block hz]; rfl
    have e5 : wc.cell? ⟨w.heap.size, 5, none⟩ = some ((layV ep tk tb nb sb (w.heap.size + 1)).getD 5 undef) := by rw [cell_block hz]; rfl
    have e6 : wc.cell? ⟨w.heap.size, 6, none⟩ = some ((layV ep tk tb nb sb (w.heap.size + 1)).getD 6 undef) := by rw [cell_block hz]; rfl
    have e7 : wc.cell? ⟨w.heap.size, 7, none⟩ = some ((layV ep tk tb nb sb (w.heap.size + 1)).getD 7 undef) := by rw [cell_block hz]; rfl
    have e8 : wc.cell? ⟨w.heap.size, 8, none⟩ = some ((layV ep tk tb nb sb (w.heap.size + 1)).getD 8 undef) := by rw [cell_block hz]; rfl
    have e9 : wc.cell? ⟨w.heap.size, 9, none⟩ = some ((layV ep tk tb nb sb (w.heap.size + 1)).getD 9 undef) := by rw [cell_block hz]; rfl
    have e10 : wc.cell? ⟨w.heap.size, 10, none⟩ = some ((layV ep tk tb nb sb (w.heap.size + 1)).getD 10 undef) := by rw [cell_block hz]; rfl
    have e11 : wc.cell? ⟨w.heap.size, 11, none⟩ = some ((layV ep tk tb nb sb (w.heap.size + 1)).getD 11 undef) := by rw [cell_block hz]; rfl
    have e12 : wc.cell? ⟨w.heap.size, 12, none⟩ = some ((layV ep tk tb nb sb (w.heap.size + 1)).getD 12 undef) := by rw [cell_block hz]; rfl
    simp only [layV] at e0 e1 e2 e3 e4 e5 e6 e7 e8 e9 e10 e11 e12
    go_wp2
    refine bodyPost_ret (v := .tuple #[.agg (layV ep tk tb nb sb (w.heap.size + 1)), .int .u64 tb, .int .u64 nb, .int .u64 sb]) ?_ rfl ⟨tb, nb, sb, _, t1, n1, s1, by omega, rfl, hbel⟩
    simp [results, Ybaf.results5, go_sem, layV, e0, e1, e2, e3, e4, e5, e6, e7, e8, e9, e10, e11, e12]

end Go.Proofs.YbulkazveFmt
