/-
  zzs2548bbuild: THE WALK.
-/
import Derived.Test.YbulkaztaBuild
namespace Go.Proofs.Ybulkazta
open Go.RowKit

set_option maxHeartbeats 1000000 in
theorem build_any (b off n c : Nat) (xn xk : Nat → Int) (xh : Nat → Bool) (xt : Nat → ByteArray) (w : World) (hn : n ≤ 1024)
    (h0 : ∀ j, j < n → w.cell? ⟨b, off + j * 4, none⟩ = some (.int .u8 (xn j)))
    (h1 : ∀ j, j < n → w.cell? ⟨b, off + j * 4 + 1, none⟩ = some (.bool (xh j)))
    (h2 : ∀ j, j < n → w.cell? ⟨b, off + j * 4 + 2, none⟩ = some (.int .u8 (xk j)))
    (h3 : ∀ j, j < n → w.cell? ⟨b, off + j * 4 + 3, none⟩ = some (.string (xt j)))
    (hxn : ∀ j, j < n → 0 ≤ xn j ∧ xn j ≤ 255) (hxk : ∀ j, j < n → 0 ≤ xk j ∧ xk j ≤ 255) (hb : b < w.heap.size) :
    Calls Yba.prog 5 #[.slice (some ⟨b, off, none⟩) n c] w fun e w' =>
      e = .returned (.tuple #[.slice (some ⟨w.heap.size, 0, none⟩) n n, .slice (some ⟨w.heap.size + 1, 0, none⟩) n n]) ∧ ∃ ap vp, Built w w' w.heap.size n n xn xk xh xt ap vp := by
  have hm1 := run_make_room (P := Yba.prog) 24 41 (.pointer none) 8 Yba.underlying24 Yba.info41 rfl .i64 .i64 n (by omega) (by omega)
  have hm2 := run_make_row' (P := Yba.prog) 25 29 (.pointer none) 8 Yba.underlying25 Yba.info29 rfl .i64 .i64 n (by omega) (by omega)
  obtain ⟨i0, hi, hz0, hz1, hz2⟩ := info_parts Yba.info41
  go_enter Yba.func5, Yba.ntmps5
  go_wp2
  clear hm1 hm2
  go_loopw [4, 16] (fun l i wr => ∃ k : Nat, k ≤ n ∧ i = .int .i64 k ∧ l = .slice (some ⟨w.heap.size, 0, none⟩) k n ∧ ∃ (ap : Nat → Nat) (vp : Nat → Option Nat), Built w wr w.heap.size n k xn xk xh xt ap vp)
      (fun _ i _ => n - (intOf i).toNat)
  case atStart => exact ⟨0, Nat.zero_le _, rfl, rfl, fun _ => 0, fun _ => none, Built.start w n hn xn xk xh xt _ _⟩
  case round =>
    obtain ⟨k, hk, rfl, rfl, ap, vp, HB⟩ := hrel
    by_cases hlt : k < n
    · have g0 : wr.cell? ⟨b, off + k * 4, none⟩ = some (.int .u8 (xn k)) := (HB.below.cell (p := ⟨b, _, none⟩) hb).trans (h0 k hlt)
      have g1 : wr.cell? ⟨b, off + k * 4 + 1, none⟩ = some (.bool (xh k)) := (HB.below.cell (p := ⟨b, _, none⟩) hb).trans (h1 k hlt)
      have g2 : wr.cell? ⟨b, off + k * 4 + 2, none⟩ = some (.int .u8 (xk k)) := (HB.below.cell (p := ⟨b, _, none⟩) hb).trans (h2 k hlt)
      have g3 : wr.cell? ⟨b, off + k * 4 + 3, none⟩ = some (.string (xt k)) := (HB.below.cell (p := ⟨b, _, none⟩) hb).trans (h3 k hlt)
      obtain ⟨n0, n1⟩ := hxn k hlt
      obtain ⟨k0, k1⟩ := hxk k hlt
      have hv0 : wr.cell? ⟨w.heap.size + 1, k, none⟩ = some (.pointer none) := by have := HB.row.cell hlt; simpa using this
      have hvf := HB.row.frozen k
      have hlw : w.heap.size + 1 < wr.heap.size := HB.row.lt
      have hbw : b < wr.heap.size := by omega
      have hbn : b ≠ w.heap.size + 1 := by omega
      have hk1 : k + 1 ≤ n := hlt
      clear h0 h1 h2 h3 hxn hxk
      cases hh : xh k with
      | false =>
        have Hh : Hid (xh k = false) := hh
        rw [hh] at g1
        clear hh
        go_wp2_with (first | (go_at_call 6; refine (name_any _ _ n0 n1).mono ?_; rintro e w' ⟨rfl, rfl⟩) | (at_builtin; refine wpList_append_fits _ rfl _ _ 24 rfl w.heap.size 41 i0 1 Yba.underlying24 hi hz1 w.heap.size k n (ptrs ap k) rfl ?q1 ⟨wr.heap.size + 1, 0, none⟩ 1 1 [.pointer (some ⟨wr.heap.size, 0, none⟩)] rfl rfl ?q2 ?q3 hk1 ?q5))
        case q1 => exact ((own_set_other HB.own ⟨w.heap.size + 1, k, none⟩ _ (by simp [Value.ownBlock])).alloc _).alloc _
        case q2 =>
          intro j u hj
          match j, hj with
          | 0, hj => simp at hj; subst hj; simp [Addr.add, go_sem]
        case q3 => intro u hu; simp at hu; subst hu; rfl
        case q5 =>
          intro w1 hown' hgrow
          have R := HB.step_bare Hh.out _ hown' hgrow
          clear hown' hgrow HB
          go_wp2
          go_roundw
          case rel => exact ⟨k + 1, hk1, by go_num, rfl, _, _, R⟩
          case measure => simp [intOf]; omega
      | true =>
        have Hh : Hid (xh k = true) := hh
        rw [hh] at g1
        clear hh
        go_wp2
        go_region
        go_wp2_with (first | (go_at_call 6; refine (name_any _ _ n0 n1).mono ?_; rintro e w' ⟨rfl, rfl⟩) | (at_builtin; refine wpList_append_fits _ rfl _ _ 24 rfl w.heap.size 41 i0 1 Yba.underlying24 hi hz1 w.heap.size k n (ptrs ap k) rfl ?p1 ⟨wr.heap.size + 1 + 1, 0, none⟩ 1 1 [.pointer (some ⟨wr.heap.size + 1, 0, none⟩)] rfl rfl ?p2 ?p3 hk1 ?p5))
        case p1 => exact (((own_set_other HB.own ⟨w.heap.size + 1, k, none⟩ _ (by simp [Value.ownBlock])).alloc _).alloc _).alloc _
        case p2 =>
          intro j u hj
          match j, hj with
          | 0, hj => simp at hj; subst hj; simp [Addr.add, go_sem]
        case p3 => intro u hu; simp at hu; subst hu; rfl
        case p5 =>
          intro w1 hown' hgrow
          have R := HB.step_full Hh.out _ hown' (grown_drew hgrow)
          clear hown' hgrow HB
          go_wp2
          go_roundw
          case rel => exact ⟨k + 1, hk1, by go_num, rfl, _, _, R⟩
          case measure => simp [intOf]; omega
    · obtain rfl : k = n := by omega
      go_wp2
      go_ret2
      exact ⟨rfl, ap, vp, HB⟩

end Go.Proofs.Ybulkazta
