/-
  newLayout: what it hands back.
-/
import Derived.Test.YbulkazveFmtRows
import Derived.WalkKit
import Derived.WalkSpells
import Derived.WalkLawsBesides
import Derived.Deep.QuietTactic
import Derived.BigQuiet
import Derived.Deep.Cut
import Derived.Deep.CutRange
namespace Go.Proofs.YbulkazveFmt
open Go.RowKit

def sumN (bs : Nat → Nat) : Nat → Nat
  | 0 => 0
  | k + 1 => sumN bs k + bs k

def layCells (name : ByteArray) (ep tk : Int) (tb nd : Nat) (F n c : Nat) : Array Value :=
  #[.string name, .int .i64 ep, .int .i64 tk, .int .u64 tb, .int .u64 nd, .int .u64 0, .slice (some ⟨F, 0, none⟩) (n + 1) c, .int .u64 0, .int .u64 0, .int .i64 0, .int .i64 0, .int .i64 0, .int .i64 0]
def zeroCells : Array Value :=
  #[.string ⟨#[]⟩, .int .i64 0, .int .i64 0, .int .u64 0, .int .u64 0, .int .u64 0, .slice none 0 0, .int .u64 0, .int .u64 0, .int .i64 0, .int .i64 0, .int .i64 0, .int .i64 0]

theorem cell_block {w : World} {b o : Nat} {cs : Array Value} {t : TypeId} {m : Nat × Nat} (h : w.heap[b]? = some (.cells cs t m)) : w.cell? ⟨b, o, none⟩ = cs[o]? := by
  simp [World.cell?, h]
/-- '1<<x - 1', as the walk writes it. -/
def maxOf (x : Nat) : Int := wrap64 (wrap64 (2 ^ min x 64) - 1)
/-- 'math.MaxInt64 >> (63 - tb - (nd + sq))', as the walk writes it. -/
def topOf (tb nd sq : Nat) : Int := 9223372036854775807 / 2 ^ min (IntKind.u64.wrap (IntKind.u64.wrap (63 - (tb : Int)) - ((nd : Int) + (sq : Int)))).toNat 64

/-- The layout that newLayout hands back. -/
def finCells (name : ByteArray) (ep tk : Int) (tb nd sq : Nat) (F n c : Nat) : Array Value :=
  #[.string name, .int .i64 ep, .int .i64 tk, .int .u64 tb, .int .u64 nd, .int .u64 sq, .slice (some ⟨F, 0, none⟩) (n + 1) c, .int .u64 ((nd : Int) + (sq : Int)), .int .u64 sq,
    .int .i64 (maxOf tb), .int .i64 (maxOf nd), .int .i64 (maxOf sq), .int .i64 (topOf tb nd sq)]

theorem frozen_block {w : World} {b o : Nat} {cs : Array Value} {t : TypeId} (h : w.heap[b]? = some (.cells cs t (0, 0))) : w.frozen? ⟨b, o, none⟩ = false := by
  simp [World.frozen?, h]

theorem sumN_le (bs : Nat → Nat) (n : Nat) (h : ∀ j, j ≤ n → bs j ≤ 255) : ∀ k, k ≤ n → sumN bs k ≤ 255 * k := by
  intro k
  induction k with
  | zero => intro _; simp [sumN]
  | succ k ih =>
    intro hk
    have := ih (by omega)
    have := h k (by omega)
    simp only [sumN]
    omega

theorem heap_set_same (w : World) (b o : Nat) (v : Value) {cs : Array Value} {t : TypeId} {m : Nat × Nat} (h : w.heap[b]? = some (.cells cs t m)) : (w.setCell ⟨b, o, none⟩ v).heap[b]? = some (.cells (cs.setIfInBounds o v) t m) := by
  simp [World.setCell, Array.getElem?_modify, h]
theorem size_set (w : World) (a : Addr) (u : Value) : (w.setCell a u).heap.size = w.heap.size := by simp [World.setCell]

theorem lay_round {w wr : World} {name : ByteArray} {ep tk : Int} {tb nd F n c B : Nat} (x : Nat) (o : Obj)
    (hz : wr.heap[B]? = some (.cells zeroCells 27 (0, 0))) (hl : wr.heap[B + 1]? = some (.cells (layCells name ep tk tb nd F n c) 27 (0, 0))) (hb : Below B w wr) :
    ((wr.setCell ⟨B + 1, 4, none⟩ (.int .u64 (x : Int))).alloc o).heap[B]? = some (.cells zeroCells 27 (0, 0)) ∧
    ((wr.setCell ⟨B + 1, 4, none⟩ (.int .u64 (x : Int))).alloc o).heap[B + 1]? = some (.cells (layCells name ep tk tb x F n c) 27 (0, 0)) ∧
    Below B w ((wr.setCell ⟨B + 1, 4, none⟩ (.int .u64 (x : Int))).alloc o) := by
  have h1 : B + 1 < wr.heap.size := (Array.getElem?_eq_some_iff.1 hl).1
  refine ⟨?_, ?_, (hb.setCell (by simp) _).alloc (by rw [size_set]; omega) _⟩
  · rw [Below.heap_alloc _ _ _ (by rw [size_set]; omega), Below.heap_setCell _ _ _ _ (by simp)]
    exact hz
  · rw [Below.heap_alloc _ _ _ (by rw [size_set]; omega), heap_set_same _ _ _ _ hl]
    rfl

theorem lay_start (w : World) (name : ByteArray) (ep tk : Int) (tb F n c : Nat) :
    ((w.alloc (.cells zeroCells 27)).alloc (.cells (layCells name ep tk tb 0 F n c) 27)).heap[w.heap.size]? = some (.cells zeroCells 27 (0, 0)) ∧
    ((w.alloc (.cells zeroCells 27)).alloc (.cells (layCells name ep tk tb 0 F n c) 27)).heap[w.heap.size + 1]? = some (.cells (layCells name ep tk tb 0 F n c) 27 (0, 0)) ∧
    Below w.heap.size w ((w.alloc (.cells zeroCells 27)).alloc (.cells (layCells name ep tk tb 0 F n c) 27)) := by
  refine ⟨?_, ?_, ((Below.refl _ w).alloc (Nat.le_refl _) _).alloc (by simp) _⟩
  · rw [Below.heap_alloc _ _ _ (by simp)]; exact heap_alloc_new w _
  · have := heap_alloc_new (w.alloc (.cells zeroCells 27)) (.cells (layCells name ep tk tb 0 F n c) 27)
    simpa using this

theorem keep_set {w wr : World} {B o : Nat} {v : Value} {za ca : Array Value}
    (h : wr.heap[B]? = some (.cells za 27 (0, 0)) ∧ wr.heap[B + 1]? = some (.cells ca 27 (0, 0)) ∧ Below B w wr) :
    (wr.setCell ⟨B + 1, o, none⟩ v).heap[B]? = some (.cells za 27 (0, 0)) ∧ (wr.setCell ⟨B + 1, o, none⟩ v).heap[B + 1]? = some (.cells (ca.setIfInBounds o v) 27 (0, 0)) ∧ Below B w (wr.setCell ⟨B + 1, o, none⟩ v) := by
  obtain ⟨hz, hl, hb⟩ := h
  exact ⟨by rw [Below.heap_setCell _ _ _ _ (by simp)]; exact hz, heap_set_same _ _ _ _ hl, hb.setCell (by simp) _⟩

theorem keep_set0 {w wr : World} {B o : Nat} {v : Value} {za : Array Value}
    (h : wr.heap[B]? = some (.cells za 27 (0, 0)) ∧ Below B w wr) :
    (wr.setCell ⟨B, o, none⟩ v).heap[B]? = some (.cells (za.setIfInBounds o v) 27 (0, 0)) ∧ Below B w (wr.setCell ⟨B, o, none⟩ v) := by
  obtain ⟨hz, hb⟩ := h
  exact ⟨heap_set_same _ _ _ _ hz, hb.setCell (by simp) _⟩

theorem keep13 {w wr : World} {B : Nat} {v0 v1 v2 v3 v4 v5 v6 v7 v8 v9 v10 v11 v12 : Value} (h : wr.heap[B]? = some (.cells zeroCells 27 (0, 0)) ∧ Below B w wr) :
    (((((((((((((wr.setCell ⟨B, 0, none⟩ v0).setCell ⟨B, 1, none⟩ v1).setCell ⟨B, 2, none⟩ v2).setCell ⟨B, 3, none⟩ v3).setCell ⟨B, 4, none⟩ v4).setCell ⟨B, 5, none⟩ v5).setCell ⟨B, 6, none⟩ v6).setCell ⟨B, 7, none⟩ v7).setCell ⟨B, 8, none⟩ v8).setCell ⟨B, 9, none⟩ v9).setCell ⟨B, 10, none⟩ v10).setCell ⟨B, 11, none⟩ v11).setCell ⟨B, 12, none⟩ v12).heap[B]? = some (.cells #[v0, v1, v2, v3, v4, v5, v6, v7, v8, v9, v10, v11, v12] 27 (0, 0)) ∧
    Below B w (((((((((((((wr.setCell ⟨B, 0, none⟩ v0).setCell ⟨B, 1, none⟩ v1).setCell ⟨B, 2, none⟩ v2).setCell ⟨B, 3, none⟩ v3).setCell ⟨B, 4, none⟩ v4).setCell ⟨B, 5, none⟩ v5).setCell ⟨B, 6, none⟩ v6).setCell ⟨B, 7, none⟩ v7).setCell ⟨B, 8, none⟩ v8).setCell ⟨B, 9, none⟩ v9).setCell ⟨B, 10, none⟩ v10).setCell ⟨B, 11, none⟩ v11).setCell ⟨B, 12, none⟩ v12) := by
  have h13 := keep_set0 (o := 12) (v := v12) (keep_set0 (o := 11) (v := v11) (keep_set0 (o := 10) (v := v10) (keep_set0 (o := 9) (v := v9) (keep_set0 (o := 8) (v := v8) (keep_set0 (o := 7) (v := v7) (keep_set0 (o := 6) (v := v6) (keep_set0 (o := 5) (v := v5) (keep_set0 (o := 4) (v := v4) (keep_set0 (o := 3) (v := v3) (keep_set0 (o := 2) (v := v2) (keep_set0 (o := 1) (v := v1) (keep_set0 (o := 0) (v := v0) h))))))))))))
  refine ⟨h13.1.trans ?_, h13.2⟩
  simp [zeroCells]

set_option maxRecDepth 100000 in
set_option maxHeartbeats 1000000 in
theorem newLayout_any (name : ByteArray) (ep tk : Int) (tb n F c : Nat) (bs : Nat → Nat) (w : World) (hn : n ≤ 1024) (hc : n + 1 ≤ c) (hc2 : c ≤ 2000) (hbs : ∀ j, j ≤ n → bs j ≤ 255) (_htb : tb ≤ 255) (hF : F < w.heap.size) (nms : Nat → ByteArray)
    (hf0 : ∀ j, j ≤ n → w.cell? ⟨F, j * 2, none⟩ = some (.string (nms j)))
    (hf : ∀ j, j ≤ n → w.cell? ⟨F, j * 2 + 1, none⟩ = some (.int .u64 (bs j))) :
    Calls Ybaf.prog 8 #[.string name, .int .i64 ep, .int .i64 tk, .int .u64 tb, .slice (some ⟨F, 0, none⟩) (n + 1) c] w fun e w' => e = .returned (.agg (finCells name ep tk tb (sumN bs n) (bs n) F n c)) ∧ Below w.heap.size w w' := by
  go_enter Ybaf.func8, Ybaf.ntmps8
  go_wp2
  go_loopw [32] (fun i wr => ∃ k : Nat, k ≤ n ∧ i = .int .i64 k ∧ wr.heap[w.heap.size]? = some (.cells zeroCells 27 (0, 0)) ∧ wr.heap[w.heap.size + 1]? = some (.cells (layCells name ep tk tb (sumN bs k) F n c) 27 (0, 0)) ∧ Below w.heap.size w wr)
      (fun i _ => n - (intOf i).toNat)
  case atStart => exact ⟨0, Nat.zero_le _, rfl, lay_start w name ep tk tb F n c⟩
  case round =>
    obtain ⟨k, hk, rfl, hz, hl, hbel⟩ := hrel
    have hlt2 : w.heap.size + 1 < wr.heap.size := (Array.getElem?_eq_some_iff.1 hl).1
    have hFw : F < wr.heap.size := by omega
    have c4 : wr.cell? ⟨w.heap.size + 1, 4, none⟩ = some (.int .u64 (sumN bs k)) := by rw [cell_block hl]; rfl
    have hs := sumN_le bs n hbs k hk
    have fz : ∀ o, wr.frozen? ⟨w.heap.size + 1, o, none⟩ = false := fun o => frozen_block hl
    by_cases hlt : k < n
    · have g0 : wr.cell? ⟨F, k * 2, none⟩ = some (.string (nms k)) := (hbel.cell (p := ⟨F, _, none⟩) hF).trans (hf0 k hk)
      have g1 : wr.cell? ⟨F, k * 2 + 1, none⟩ = some (.int .u64 (bs k)) := (hbel.cell (p := ⟨F, _, none⟩) hF).trans (hf k hk)
      have hb1 := hbs k hk
      have R := lay_round (sumN bs (k + 1)) (.cells #[.string (nms k), .int .u64 (bs k)] 42) hz hl hbel
      have HR : Hid _ := R
      clear R hf hf0 hz hl hbel
      go_wp2
      go_roundw
      case rel => exact ⟨k + 1, by omega, by go_num, by simpa [sumN] using HR.out⟩
      case measure => simp [intOf]; omega
    · obtain rfl : k = n := by omega
      have hzf : ∀ o, wr.frozen? ⟨w.heap.size, o, none⟩ = false := fun o => frozen_block hz
      have c0 : wr.cell? ⟨w.heap.size + 1, 0, none⟩ = some (.string name) := by rw [cell_block hl]; rfl
      have c1 : wr.cell? ⟨w.heap.size + 1, 1, none⟩ = some (.int .i64 ep) := by rw [cell_block hl]; rfl
      have c2 : wr.cell? ⟨w.heap.size + 1, 2, none⟩ = some (.int .i64 tk) := by rw [cell_block hl]; rfl
      have c3 : wr.cell? ⟨w.heap.size + 1, 3, none⟩ = some (.int .u64 tb) := by rw [cell_block hl]; rfl
      have c5 : wr.cell? ⟨w.heap.size + 1, 5, none⟩ = some (.int .u64 0) := by rw [cell_block hl]; rfl
      have c6 : wr.cell? ⟨w.heap.size + 1, 6, none⟩ = some (.slice (some ⟨F, 0, none⟩) (k + 1) c) := by rw [cell_block hl]; rfl
      have c7 : wr.cell? ⟨w.heap.size + 1, 7, none⟩ = some (.int .u64 0) := by rw [cell_block hl]; rfl
      have c8 : wr.cell? ⟨w.heap.size + 1, 8, none⟩ = some (.int .u64 0) := by rw [cell_block hl]; rfl
      have c9 : wr.cell? ⟨w.heap.size + 1, 9, none⟩ = some (.int .i64 0) := by rw [cell_block hl]; rfl
      have c10 : wr.cell? ⟨w.heap.size + 1, 10, none⟩ = some (.int .i64 0) := by rw [cell_block hl]; rfl
      have c11 : wr.cell? ⟨w.heap.size + 1, 11, none⟩ = some (.int .i64 0) := by rw [cell_block hl]; rfl
      have c12 : wr.cell? ⟨w.heap.size + 1, 12, none⟩ = some (.int .i64 0) := by rw [cell_block hl]; rfl
      have g1 : wr.cell? ⟨F, k * 2 + 1, none⟩ = some (.int .u64 (bs k)) := (hbel.cell (p := ⟨F, _, none⟩) hF).trans (hf k hk)
      have hb1 := hbs k hk
      have HB : Hid (wr.heap[w.heap.size]? = some (.cells zeroCells 27 (0, 0)) ∧ wr.heap[w.heap.size + 1]? = some (.cells (layCells name ep tk tb (sumN bs k) F k c) 27 (0, 0)) ∧ Below w.heap.size w wr) := ⟨hz, hl, hbel⟩
      clear hf hf0 hz hl hbel
      go_upto_region 14 with fail
      go_cut [] from 13 (fun wc => wc.heap[w.heap.size]? = some (.cells zeroCells 27 (0, 0)) ∧ wc.heap[w.heap.size + 1]? = some (.cells (finCells name ep tk tb (sumN bs k) (bs k) F k c) 27 (0, 0)) ∧ Below w.heap.size w wc)
      case first =>
        go_wp2_with fail
        go_meet
        case rel => exact keep_set (keep_set (keep_set (keep_set (keep_set (keep_set (keep_set HB.out))))))
      case rest =>
        obtain ⟨hz, hl, hbel⟩ := hcut
        have d0 : wc.cell? ⟨w.heap.size + 1, 0, none⟩ = some ((finCells name ep tk tb (sumN bs k) (bs k) F k c).getD 0 undef) := by rw [cell_block hl]; rfl
        have d1 : wc.cell? ⟨w.heap.size + 1, 1, none⟩ = some ((finCells name ep tk tb (sumN bs k) (bs k) F k c).getD 1 undef) := by rw [cell_block hl]; rfl
        have d2 : wc.cell? ⟨w.heap.size + 1, 2, none⟩ = some ((finCells name ep tk tb (sumN bs k) (bs k) F k c).getD 2 undef) := by rw [cell_block hl]; rfl
        have d3 : wc.cell? ⟨w.heap.size + 1, 3, none⟩ = some ((finCells name ep tk tb (sumN bs k) (bs k) F k c).getD 3 undef) := by rw [cell_block hl]; rfl
        have d4 : wc.cell? ⟨w.heap.size + 1, 4, none⟩ = some ((finCells name ep tk tb (sumN bs k) (bs k) F k c).getD 4 undef) := by rw [cell_block hl]; rfl
        have d5 : wc.cell? ⟨w.heap.size + 1, 5, none⟩ = some ((finCells name ep tk tb (sumN bs k) (bs k) F k c).getD 5 undef) := by rw [cell_block hl]; rfl
        have d6 : wc.cell? ⟨w.heap.size + 1, 6, none⟩ = some ((finCells name ep tk tb (sumN bs k) (bs k) F k c).getD 6 undef) := by rw [cell_block hl]; rfl
        have d7 : wc.cell? ⟨w.heap.size + 1, 7, none⟩ = some ((finCells name ep tk tb (sumN bs k) (bs k) F k c).getD 7 undef) := by rw [cell_block hl]; rfl
        have d8 : wc.cell? ⟨w.heap.size + 1, 8, none⟩ = some ((finCells name ep tk tb (sumN bs k) (bs k) F k c).getD 8 undef) := by rw [cell_block hl]; rfl
        have d9 : wc.cell? ⟨w.heap.size + 1, 9, none⟩ = some ((finCells name ep tk tb (sumN bs k) (bs k) F k c).getD 9 undef) := by rw [cell_block hl]; rfl
        have d10 : wc.cell? ⟨w.heap.size + 1, 10, none⟩ = some ((finCells name ep tk tb (sumN bs k) (bs k) F k c).getD 10 undef) := by rw [cell_block hl]; rfl
        have d11 : wc.cell? ⟨w.heap.size + 1, 11, none⟩ = some ((finCells name ep tk tb (sumN bs k) (bs k) F k c).getD 11 undef) := by rw [cell_block hl]; rfl
        have d12 : wc.cell? ⟨w.heap.size + 1, 12, none⟩ = some ((finCells name ep tk tb (sumN bs k) (bs k) F k c).getD 12 undef) := by rw [cell_block hl]; rfl
        have z0 : wc.cell? ⟨w.heap.size, 0, none⟩ = some (zeroCells.getD 0 undef) := by rw [cell_block hz]; rfl
        have z1 : wc.cell? ⟨w.heap.size, 1, none⟩ = some (zeroCells.getD 1 undef) := by rw [cell_block hz]; rfl
        have z2 : wc.cell? ⟨w.heap.size, 2, none⟩ = some (zeroCells.getD 2 undef) := by rw [cell_block hz]; rfl
        have z3 : wc.cell? ⟨w.heap.size, 3, none⟩ = some (zeroCells.getD 3 undef) := by rw [cell_block hz]; rfl
        have z4 : wc.cell? ⟨w.heap.size, 4, none⟩ = some (zeroCells.getD 4 undef) := by rw [cell_block hz]; rfl
        have z5 : wc.cell? ⟨w.heap.size, 5, none⟩ = some (zeroCells.getD 5 undef) := by rw [cell_block hz]; rfl
        have z6 : wc.cell? ⟨w.heap.size, 6, none⟩ = some (zeroCells.getD 6 undef) := by rw [cell_block hz]; rfl
        have z7 : wc.cell? ⟨w.heap.size, 7, none⟩ = some (zeroCells.getD 7 undef) := by rw [cell_block hz]; rfl
        have z8 : wc.cell? ⟨w.heap.size, 8, none⟩ = some (zeroCells.getD 8 undef) := by rw [cell_block hz]; rfl
        have z9 : wc.cell? ⟨w.heap.size, 9, none⟩ = some (zeroCells.getD 9 undef) := by rw [cell_block hz]; rfl
        have z10 : wc.cell? ⟨w.heap.size, 10, none⟩ = some (zeroCells.getD 10 undef) := by rw [cell_block hz]; rfl
        have z11 : wc.cell? ⟨w.heap.size, 11, none⟩ = some (zeroCells.getD 11 undef) := by rw [cell_block hz]; rfl
        have z12 : wc.cell? ⟨w.heap.size, 12, none⟩ = some (zeroCells.getD 12 undef) := by rw [cell_block hz]; rfl
        simp only [finCells, zeroCells] at d0 d1 d2 d3 d4 d5 d6 d7 d8 d9 d10 d11 d12 z0 z1 z2 z3 z4 z5 z6 z7 z8 z9 z10 z11 z12
        have fz : ∀ o, wc.frozen? ⟨w.heap.size, o, none⟩ = false := fun o => frozen_block hz
        have HZ : Hid (wc.heap[w.heap.size]? = some (.cells zeroCells 27 (0, 0)) ∧ Below w.heap.size w wc) := ⟨hz, hbel⟩
        clear hz hl hbel
        go_upto_region 15 with fail
        go_cut [] from 13 (fun wd => wd.heap[w.heap.size]? = some (.cells (finCells name ep tk tb (sumN bs k) (bs k) F k c) 27 (0, 0)) ∧ Below w.heap.size w wd)
        case first =>
          go_wp2_with fail
          go_meet
          case rel => exact keep13 HZ.out
        case rest =>
          obtain ⟨hz, hbel⟩ := hcut
          have e0 : wc.cell? ⟨w.heap.size, 0, none⟩ = some ((finCells name ep tk tb (sumN bs k) (bs k) F k c).getD 0 undef) := by rw [cell_block hz]; rfl
          have e1 : wc.cell? ⟨w.heap.size, 1, none⟩ = some ((finCells name ep tk tb (sumN bs k) (bs k) F k c).getD 1 undef) := by rw [cell_block hz]; rfl
          have e2 : wc.cell? ⟨w.heap.size, 2, none⟩ = some ((finCells name ep tk tb (sumN bs k) (bs k) F k c).getD 2 undef) := by rw [cell_block hz]; rfl
          have e3 : wc.cell? ⟨w.heap.size, 3, none⟩ = some ((finCells name ep tk tb (sumN bs k) (bs k) F k c).getD 3 undef) := by rw [cell_block hz]; rfl
          have e4 : wc.cell? ⟨w.heap.size, 4, none⟩ = some ((finCells name ep tk tb (sumN bs k) (bs k) F k c).getD 4 undef) := by rw [cell_block hz]; rfl
          have e5 : wc.cell? ⟨w.heap.size, 5, none⟩ = some ((finCells name ep tk tb (sumN bs k) (bs k) F k c).getD 5 undef) := by rw [cell_block hz]; rfl
          have e6 : wc.cell? ⟨w.heap.size, 6, none⟩ = some ((finCells name ep tk tb (sumN bs k) (bs k) F k c).getD 6 undef) := by rw [cell_block hz]; rfl
          have e7 : wc.cell? ⟨w.heap.size, 7, none⟩ = some ((finCells name ep tk tb (sumN bs k) (bs k) F k c).getD 7 undef) := by rw [cell_block hz]; rfl
          have e8 : wc.cell? ⟨w.heap.size, 8, none⟩ = some ((finCells name ep tk tb (sumN bs k) (bs k) F k c).getD 8 undef) := by rw [cell_block hz]; rfl
          have e9 : wc.cell? ⟨w.heap.size, 9, none⟩ = some ((finCells name ep tk tb (sumN bs k) (bs k) F k c).getD 9 undef) := by rw [cell_block hz]; rfl
          have e10 : wc.cell? ⟨w.heap.size, 10, none⟩ = some ((finCells name ep tk tb (sumN bs k) (bs k) F k c).getD 10 undef) := by rw [cell_block hz]; rfl
          have e11 : wc.cell? ⟨w.heap.size, 11, none⟩ = some ((finCells name ep tk tb (sumN bs k) (bs k) F k c).getD 11 undef) := by rw [cell_block hz]; rfl
          have e12 : wc.cell? ⟨w.heap.size, 12, none⟩ = some ((finCells name ep tk tb (sumN bs k) (bs k) F k c).getD 12 undef) := by rw [cell_block hz]; rfl
          simp only [finCells] at e0 e1 e2 e3 e4 e5 e6 e7 e8 e9 e10 e11 e12
          go_wp2
          refine bodyPost_ret (v := .agg (finCells name ep tk tb (sumN bs k) (bs k) F k c)) ?_ rfl ⟨rfl, hbel⟩
          simp [results, Ybaf.results8, go_sem, finCells, e0, e1, e2, e3, e4, e5, e6, e7, e8, e9, e10, e11, e12]

end Go.Proofs.YbulkazveFmt
