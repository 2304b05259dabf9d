/-
  (*Layout).milli, (Layout).MaxID, (Layout).Decode.
-/
import Derived.Test.YbulkazveFmtErr
import Derived.Deep.RegionWith
import Derived.Deep.RegionHeld
namespace Go.Proofs.YbulkazveFmt
open Go.RowKit Go.Extern.Stop Go.Stop Go.Extern

set_option maxHeartbeats 400000 in
theorem milli_any (L : Nat) (t ep tk : Int) (w : World) (h1 : w.cell? ⟨L, 1, none⟩ = some (.int .i64 ep)) (h2 : w.cell? ⟨L, 2, none⟩ = some (.int .i64 tk)) :
    Calls Ybaf.prog 10 #[.pointer (some ⟨L, 0, none⟩), .int .i64 t] w fun e w' => e = .returned (.int .i64 (wrap64 (ep + wrap64 (t * tk)))) ∧ ∃ n, w' = w.drewN n := by
  go_enter Ybaf.func10, Ybaf.ntmps10
  go_wp2
  go_quiet (fail)
  go_wp2
  go_ret
  exact ⟨rfl, _, rfl⟩

def lay (nm : ByteArray) (ep tk : Int) (tb nd sq : Nat) (fs : Value) (ts ns mT mN mS mI : Int) : Value :=
  .agg #[.string nm, .int .i64 ep, .int .i64 tk, .int .u64 tb, .int .u64 nd, .int .u64 sq, fs, .int .u64 ts, .int .u64 ns, .int .i64 mT, .int .i64 mN, .int .i64 mS, .int .i64 mI]

set_option maxHeartbeats 400000 in
theorem maxID_any (nm : ByteArray) (ep tk : Int) (tb nd sq : Nat) (fa : Option Addr) (fl fc : Nat) (ts ns mT mN mS mI : Int) (w : World) :
    Calls Ybaf.prog 6 #[.agg #[.string nm, .int .i64 ep, .int .i64 tk, .int .u64 tb, .int .u64 nd, .int .u64 sq, .slice fa fl fc, .int .u64 ts, .int .u64 ns, .int .i64 mT, .int .i64 mN, .int .i64 mS, .int .i64 mI]] w
      fun e w' => e = .returned (.int .i64 mI) ∧ Below w.heap.size w w' := by
  go_enter Ybaf.func6, Ybaf.ntmps6
  go_wp2
  go_ret
  exact ⟨rfl, (Below.refl _ w).alloc (Nat.le_refl _) _⟩

theorem after_err {w w1 : World} {o : Obj} (hb : Below ((w.alloc o).alloc (.cells #[.int .i64 0, .int .i64 0, .int .i64 0] 33)).heap.size ((w.alloc o).alloc (.cells #[.int .i64 0, .int .i64 0, .int .i64 0] 33)) w1) :
    w.heap.size + 1 < w1.heap.size ∧ w1.cell? ⟨w.heap.size + 1, 0, none⟩ = some (.int .i64 0) ∧ w1.cell? ⟨w.heap.size + 1, 1, none⟩ = some (.int .i64 0) ∧ w1.cell? ⟨w.heap.size + 1, 2, none⟩ = some (.int .i64 0) ∧
    (∀ i, w1.frozen? ⟨w.heap.size + 1, i, none⟩ = false) ∧ Below w.heap.size w w1 := by
  have hs := hb.size
  have hblk : w1.heap[w.heap.size + 1]? = some (.cells #[.int .i64 0, .int .i64 0, .int .i64 0] 33 (0, 0)) := by
    rw [hb.block _ (by simp)]
    have := heap_alloc_new (w.alloc o) (.cells #[.int .i64 0, .int .i64 0, .int .i64 0] 33)
    simpa using this
  simp at hs
  refine ⟨by omega, ?_, ?_, ?_, fun i => ?_, (((Below.refl _ w).alloc (Nat.le_refl _) _).alloc (by simp) _).trans (hb.mono (by simp; omega))⟩
  · simp [World.cell?, hblk]
  · simp [World.cell?, hblk]
  · simp [World.cell?, hblk]
  · simp [World.frozen?, hblk]

set_option maxHeartbeats 400000 in
theorem decode_no (F : Interp) (nm : ByteArray) (ep tk id : Int) (tb nd sq : Nat) (fa : Option Addr) (fl fc : Nat) (ts ns mT mN mS mI : Int) (w : World) (hF : F.answers w.tape) (hid : id < 1 ∨ mI < id) :
    Calls Ybaf.prog 7 #[.agg #[.string nm, .int .i64 ep, .int .i64 tk, .int .u64 tb, .int .u64 nd, .int .u64 sq, .slice fa fl fc, .int .u64 ts, .int .u64 ns, .int .i64 mT, .int .i64 mN, .int .i64 mS, .int .i64 mI], .int .i64 id] w
      fun e w' => ∃ b, e = .returned (.tuple #[.agg #[.int .i64 0, .int .i64 0, .int .i64 0], .iface 50 (.pointer (some ⟨b, 0, none⟩))]) ∧ Below w.heap.size w w' := by
  have HID : Hid (id < 1 ∨ mI < id) := hid
  clear hid
  by_cases h1 : id < 1
  · go_enter Ybaf.func7, Ybaf.ntmps7
    go_wp2_with fail
    refine (notAnID_any F _ _ _ _ (by exact hF)).mono ?_
    rintro e w1 ⟨b, rfl, hb⟩
    obtain ⟨hsz, q0, q1, q2, f0, hbel⟩ := after_err hb
    clear hb
    go_wp2
    refine bodyPost_ret (v := .tuple #[.agg #[.int .i64 0, .int .i64 0, .int .i64 0], .iface 50 (.pointer (some ⟨b, 0, none⟩))]) ?_ rfl ⟨b, rfl, ?_⟩
    · simp [results, Ybaf.results7, go_sem, q0, q1, q2]
    · exact ((hbel.setCell (by simp) _).setCell (by simp) _).setCell (by simp) _
  · have h2 : mI < id := HID.out.resolve_left h1
    go_enter Ybaf.func7, Ybaf.ntmps7
    go_wp2_with fail
    refine (notAnID_any F _ _ _ _ (by exact hF)).mono ?_
    rintro e w1 ⟨b, rfl, hb⟩
    obtain ⟨hsz, q0, q1, q2, f0, hbel⟩ := after_err hb
    clear hb
    go_wp2
    refine bodyPost_ret (v := .tuple #[.agg #[.int .i64 0, .int .i64 0, .int .i64 0], .iface 50 (.pointer (some ⟨b, 0, none⟩))]) ?_ rfl ⟨b, rfl, ?_⟩
    · simp [results, Ybaf.results7, go_sem, q0, q1, q2]
    · exact ((hbel.setCell (by simp) _).setCell (by simp) _).setCell (by simp) _

theorem cell_first (w : World) (A : Array Value) (t : TypeId) (Z : Obj) (i : Nat) : (((w.alloc (.cells A t)).alloc Z).drew).cell? ⟨w.heap.size, i, none⟩ = A[i]? := by
  have h : ((w.alloc (.cells A t)).alloc Z).heap[w.heap.size]? = some (.cells A t (0, 0)) := by
    rw [Below.heap_alloc _ _ _ (by simp)]
    exact heap_alloc_new w _
  show ((w.alloc (.cells A t)).alloc Z).cell? ⟨w.heap.size, i, none⟩ = A[i]?
  simp [World.cell?, h]

theorem cell_second (w : World) (o : Obj) (A : Array Value) (t : TypeId) (i : Nat) : ((w.alloc o).alloc (.cells A t)).cell? ⟨w.heap.size + 1, i, none⟩ = A[i]? ∧ ((w.alloc o).alloc (.cells A t)).frozen? ⟨w.heap.size + 1, i, none⟩ = false := by
  have h : ((w.alloc o).alloc (.cells A t)).heap[w.heap.size + 1]? = some (.cells A t (0, 0)) := by
    have := heap_alloc_new (w.alloc o) (.cells A t)
    rwa [show (w.alloc o).heap.size = w.heap.size + 1 from by simp] at this
  constructor
  · unfold World.cell?; rw [h]; simp
  · unfold World.frozen?; rw [h]; simp

set_option maxHeartbeats 1000000 in
theorem decode_ok (nm : ByteArray) (ep tk id : Int) (tb nd sq : Nat) (fa : Option Addr) (fl fc : Nat) (ts ns mT mN mS mI : Int) (w : World) (h1 : ¬ id < 1) (h2 : ¬ mI < id) (hts : 0 ≤ ts) (hns : 0 ≤ ns) :
    Calls Ybaf.prog 7 #[.agg #[.string nm, .int .i64 ep, .int .i64 tk, .int .u64 tb, .int .u64 nd, .int .u64 sq, .slice fa fl fc, .int .u64 ts, .int .u64 ns, .int .i64 mT, .int .i64 mN, .int .i64 mS, .int .i64 mI], .int .i64 id] w
      fun e w' => e = .returned (.tuple #[.agg #[.int .i64 (wrap64 (ep + wrap64 (id / 2 ^ min ts.toNat 64 * tk))), .int .i64 (bits BinOp.and IntKind.i64 (id / 2 ^ min ns.toNat 64) mN), .int .i64 (bits BinOp.and IntKind.i64 id mS)], .nilIface]) ∧ Below w.heap.size w w' := by
  go_enter Ybaf.func7, Ybaf.ntmps7
  go_wp2
  obtain ⟨W, hW⟩ : ∃ W, W = ((w.alloc (.cells #[.string nm, .int .i64 ep, .int .i64 tk, .int .u64 tb, .int .u64 nd, .int .u64 sq, .slice fa fl fc, .int .u64 ts, .int .u64 ns, .int .i64 mT, .int .i64 mN, .int .i64 mS, .int .i64 mI] 27)).alloc (.cells #[.int .i64 0, .int .i64 0, .int .i64 0] 33)) := ⟨_, rfl⟩
  rw [← hW]
  have c1 : W.cell? ⟨w.heap.size, 1, none⟩ = some (.int .i64 ep) := by rw [hW]; exact cell_first w _ 27 _ 1
  have c2 : W.cell? ⟨w.heap.size, 2, none⟩ = some (.int .i64 tk) := by rw [hW]; exact cell_first w _ 27 _ 2
  have c7 : W.cell? ⟨w.heap.size, 7, none⟩ = some (.int .u64 ts) := by rw [hW]; exact cell_first w _ 27 _ 7
  have c8 : W.cell? ⟨w.heap.size, 8, none⟩ = some (.int .u64 ns) := by rw [hW]; exact cell_first w _ 27 _ 8
  have c10 : W.cell? ⟨w.heap.size, 10, none⟩ = some (.int .i64 mN) := by rw [hW]; exact cell_first w _ 27 _ 10
  have c11 : W.cell? ⟨w.heap.size, 11, none⟩ = some (.int .i64 mS) := by rw [hW]; exact cell_first w _ 27 _ 11
  have r0 : W.cell? ⟨w.heap.size + 1, 0, none⟩ = some (.int .i64 0) := by rw [hW]; exact (cell_second w _ _ 33 0).1
  have r1 : W.cell? ⟨w.heap.size + 1, 1, none⟩ = some (.int .i64 0) := by rw [hW]; exact (cell_second w _ _ 33 1).1
  have r2 : W.cell? ⟨w.heap.size + 1, 2, none⟩ = some (.int .i64 0) := by rw [hW]; exact (cell_second w _ _ 33 2).1
  have rf : ∀ i, W.frozen? ⟨w.heap.size + 1, i, none⟩ = false := fun i => by rw [hW]; exact (cell_second w _ _ 33 i).2
  have hB : Hid (Below w.heap.size w W) := by rw [hW]; exact ((Below.refl _ w).alloc (Nat.le_refl _) _).alloc (by simp) _
  clear hW
  go_region_held (fun w' => w'.cell? ⟨w.heap.size, 1, none⟩ = some (.int .i64 ep) ∧ w'.cell? ⟨w.heap.size, 2, none⟩ = some (.int .i64 tk) ∧ w'.cell? ⟨w.heap.size, 7, none⟩ = some (.int .u64 ts) ∧ w'.cell? ⟨w.heap.size, 8, none⟩ = some (.int .u64 ns) ∧ w'.cell? ⟨w.heap.size, 10, none⟩ = some (.int .i64 mN) ∧ w'.cell? ⟨w.heap.size, 11, none⟩ = some (.int .i64 mS)) (go_keep) (first | (go_at_call 10; refine (milli_any w.heap.size _ ep tk _ ?_ ?_).mono ?_; (simp [*]); (simp [*]); rintro e w' ⟨rfl, nq, rfl⟩))
  go_wp2
  refine bodyPost_ret (v := .tuple #[.agg #[.int .i64 (wrap64 (ep + wrap64 (id / 2 ^ min ts.toNat 64 * tk))), .int .i64 (bits BinOp.and IntKind.i64 (id / 2 ^ min ns.toNat 64) mN), .int .i64 (bits BinOp.and IntKind.i64 id mS)], .nilIface]) ?_ rfl ⟨rfl, ?_⟩
  · simp [results, Ybaf.results7, go_sem, r0, r1, r2]
  · exact (((below_drewN hB.out _).setCell (by simp) _).setCell (by simp) _).setCell (by simp) _

end Go.Proofs.YbulkazveFmt
