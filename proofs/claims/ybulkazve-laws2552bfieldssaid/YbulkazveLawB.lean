/-
  LawS2552BFields: THE ROW.
-/
import Derived.Test.YbulkazveFields
import Derived.ProofKit
import Derived.OpenShut
import Derived.ShutString
import Derived.ChangeOld
import Derived.Below
import Derived.SliceStrings
namespace Go.Proofs.Ybulkazve
open Go.ChangeShapes Go.WideShapes Go.ChangeAt Go.RowKit
open Go.ChangeMaps (open_string shut_string)

theorem own : ownKnob Yba.prog.godebug = none := by kernel_rfl
theorem laidOut : laidOutB Yba.prog = true := by kernel_rfl
theorem Yba.cells5 : Yba.prog.cellsOf 5 = 1 := by kernel_rfl
theorem Yba.cells9 : Yba.prog.cellsOf 9 = 1 := by kernel_rfl

set_option maxRecDepth 100000 in
set_option maxHeartbeats 400000 in
theorem fields_long (name : ByteArray) (ep tk tb sq : Int) (n ln : Nat) (aB aN : Option Addr) (cB cN : Nat) (w : World) (hn : 1024 < n) (hm : n ≤ maxLen) :
    Calls Yba.prog 3 #[.string name, .int .i64 ep, .int .i64 tk, .int .u8 tb, .slice aN ln cN, .slice aB n cB, .int .u8 sq] w fun e w' => e = .returned (.bool true) ∧ w' = w := by
  unfold maxLen at hm
  go_enter Yba.func3, Yba.ntmps3
  go_wp2
  go_ret
  exact ⟨rfl, rfl⟩

theorem bd_u8 {n : Int} (h : (Lit.int .u8 n).wf = true) : 0 ≤ n ∧ n ≤ 255 := by
  simp [Lit.wf, IntKind.min, IntKind.max, IntKind.signed, IntKind.bits] at h
  omega

/-- A slice of bytes that came in: empty, or its bytes lie from ⟨b, o⟩ on. -/
def IsBytes (w : World) (a : Option Addr) (n : Nat) (b o : Nat) (bs : Nat → Nat) : Prop :=
  n ≤ maxLen ∧ (0 < n → a = some ⟨b, o, none⟩) ∧ (0 < n → b < w.heap.size) ∧ (∀ j, j < n → w.cell? ⟨b, o + j, none⟩ = some (.int .u8 (bs j))) ∧ (∀ j, j < n → bs j ≤ 255)
/-- A slice of strings that came in. -/
def IsStrs (w : World) (a : Option Addr) (n : Nat) (b o : Nat) (ns : Nat → ByteArray) : Prop :=
  n ≤ maxLen ∧ (0 < n → a = some ⟨b, o, none⟩) ∧ (0 < n → b < w.heap.size) ∧ ∀ j, j < n → w.cell? ⟨b, o + j, none⟩ = some (.string (ns j))

theorem spot_none {w : World} {b o : Nat} {sp : Option Nat} {v : Value} (h : w.cell? (⟨b, o, sp⟩ : Addr) = some v) : sp = none := World.cell?_spot h

theorem open_bytes {H : Type} {enc : TypeId × Value → H} {w : World} {fuel : Nat} {a : Option Addr} {len cap : Nat} {x : DataW H × List MemPlace}
    (h : DataW.trod enc Yba.prog w 0 (fun _ => true) true fuel 23 [.slice a len cap] = some x) : ∃ b o bs, IsBytes w a len b o bs := by
  rcases open_ints Yba.underlying23 Yba.underlying5 Yba.cells5 h with ⟨hcs, _⟩ | ⟨ad, l, c, zs, hcs, _, hl, hm, hz, _, hcell, hwz⟩
  · simp at hcs
    obtain ⟨_, rfl, _⟩ := hcs
    exact ⟨0, 0, fun _ => 0, by unfold maxLen; omega, fun h => by omega, fun h => by omega, fun j hj => by omega, fun j hj => by omega⟩
  · simp at hcs
    obtain ⟨rfl, rfl, rfl⟩ := hcs
    simp only [if_true] at hz
    obtain ⟨b, o, sp⟩ := ad
    have bd : ∀ j, j < len → 0 ≤ zs.getD j 0 ∧ zs.getD j 0 ≤ 255 := fun j hj => by
      have hj' : j < zs.length := by omega
      have e : zs.getD j 0 = zs[j] := by simp [List.getD, hj']
      rw [e]
      exact bd_u8 (hwz _ (List.getElem_mem hj'))
    have hsp : 0 < len → sp = none := fun h0 => by
      have := hcell 0 (by omega)
      simp [Addr.add] at this
      exact World.cell?_spot this
    refine ⟨b, o, fun j => (zs.getD j 0).toNat, by omega, fun h0 => by rw [hsp h0], fun h0 => ?_, fun j hj => ?_, fun j hj => ?_⟩
    · have := World.block_lt_of_cell? w _ (hcell 0 (by omega))
      simpa [Addr.add] using this
    · have hs := hsp (by omega)
      subst hs
      have := hcell j (by omega)
      rw [add_plain] at this
      rw [this]
      have := bd j hj
      rw [Int.toNat_of_nonneg this.1]
    · have := bd j hj
      show (zs.getD j 0).toNat ≤ 255
      omega

theorem open_strs {H : Type} {enc : TypeId × Value → H} {w : World} {fuel : Nat} {a : Option Addr} {len cap : Nat} {x : DataW H × List MemPlace}
    (h : DataW.trod enc Yba.prog w 0 (fun _ => true) true fuel 22 [.slice a len cap] = some x) : ∃ b o ns, IsStrs w a len b o ns := by
  rcases open_strings Yba.underlying22 Yba.underlying9 Yba.cells9 h with ⟨hcs, _⟩ | ⟨ad, l, c, ss, hcs, _, hl, hm, hz, _, hcell, hws⟩
  · simp at hcs
    obtain ⟨_, rfl, _⟩ := hcs
    exact ⟨0, 0, fun _ => ByteArray.empty, by unfold maxLen; omega, fun h => by omega, fun h => by omega, fun j hj => by omega⟩
  · simp at hcs
    obtain ⟨rfl, rfl, rfl⟩ := hcs
    simp only [if_true] at hz
    obtain ⟨b, o, sp⟩ := ad
    have hsp : 0 < len → sp = none := fun h0 => by
      have := hcell 0 (by omega)
      simp [Addr.add] at this
      exact World.cell?_spot this
    refine ⟨b, o, fun j => ss.getD j ByteArray.empty, by omega, fun h0 => by rw [hsp h0], fun h0 => ?_, fun j hj => ?_⟩
    · have := World.block_lt_of_cell? w _ (hcell 0 (by omega))
      simpa [Addr.add] using this
    · have hs := hsp (by omega)
      subst hs
      have := hcell j (by omega)
      rw [add_plain] at this
      exact this

theorem walked (name : ByteArray) (ep tk tb sq : Int) (n ln : Nat) (aB aN : Option Addr) (cB cN : Nat) (bb ob bn on : Nat) (bs : Nat → Nat) (nn : Nat → ByteArray) (w : World)
    (htb : 0 ≤ tb ∧ tb ≤ 255) (hsq : 0 ≤ sq ∧ sq ≤ 255) (hB : IsBytes w aB n bb ob bs) (hN : IsStrs w aN ln bn on nn) :
    Calls Yba.prog 3 #[.string name, .int .i64 ep, .int .i64 tk, .int .u8 tb, .slice aN ln cN, .slice aB n cB, .int .u8 sq] w fun e w' => e = .returned (.bool true) ∧ Below w.heap.size w w' := by
  obtain ⟨hm, hB1, hB2, hB3, hB4⟩ := hB
  obtain ⟨hm2, hN1, hN2, hN3⟩ := hN
  by_cases hn : n ≤ 1024
  · obtain ⟨t, rfl⟩ := Int.eq_ofNat_of_zero_le htb.1
    obtain ⟨q, rfl⟩ := Int.eq_ofNat_of_zero_le hsq.1
    unfold maxLen at hm2
    refine fields_walk name ep tk t q n ln aB aN cB cN bb ob bn on (fun j => if j < n then (if j < ln then nn j else ⟨#[]⟩) else ⟨#[115, 101, 113, 117, 101, 110, 99, 101]⟩) nn (fun j => if j < n then bs j else q) w hn (by omega) (by omega) ?_ (by omega)
      (by simp [Hid]) (by simp [Hid]) ?_ hB1 hN1 hB2 hN2 ?_ hN3
    · intro j hj
      by_cases h : j < n
      · simp only [h, if_true]; exact hB4 j h
      · simp only [h, if_false]; omega
    · intro j hj
      simp only [hj, if_true]
    · intro j hj
      simp only [hj, if_true]
      exact hB3 j hj
  · refine (fields_long name ep tk tb sq n ln aB aN cB cN w (by omega) hm).mono ?_
    rintro e w' ⟨rfl, rfl⟩
    exact ⟨rfl, Below.refl _ _⟩

set_option maxRecDepth 100000 in
theorem lifted (os : Os) (started : os.Started) (H : Type) (enc : TypeId × Value → H) :
    ReturnsInHanded {} Yba.checked os 3 .any (Rows.lawS2552BFieldsSpec.pre6 enc Yba.prog Yba.f3 Rows.lawS2552BFieldsRow.domain false) (Rows.lawS2552BFieldsSpec.post enc Yba.prog Yba.f3 false true false false) := by
  refine returnsInHanded_of_change (C := Yba.checked) own started (by kernel_rfl) Yba.func3
    (ChangeSpec.witness6 (enc := enc) (C := Yba.checked) false ⟨#[], #[.string ⟨#[]⟩, .int .i64 0, .int .i64 0, .int .u8 0, .slice none 0 0, .slice none 0 0, .int .u8 0], []⟩ 8 (by kernel_rfl) (by kernel_rfl) (by kernel_rfl) (by kernel_rfl)) ?_
  intro W base args ds gs before hval0 hW hcnd _
  have hval : ∀ (j : Nat) t v, Yba.f3.params[j]? = some t → args[j]? = some v → Value.okWide Yba.prog W .any base t v := hval0
  have hW' := hW
  obtain ⟨p, q, hA0, hV, rfl, hfz, hnd⟩ := hW
  have hA : DataW.TrodAll enc Yba.prog W 0 (fun _ => true) true Yba.f3.params.toList args.toList ds p := hA0
  rw [Yba.params3] at hA hval
  obtain ⟨v0, vs0, d0, ds0, p0, q0, hargs, rfl, rfl, h0, r0⟩ := trodAll_cons hA
  obtain ⟨v1, vs1, d1, ds1, p1, q1, rfl, rfl, rfl, h1, r1⟩ := trodAll_cons r0
  obtain ⟨v2, vs2, d2, ds2, p2, q2, rfl, rfl, rfl, h2, r2⟩ := trodAll_cons r1
  obtain ⟨v3, vs3, d3, ds3, p3, q3, rfl, rfl, rfl, h3, r3⟩ := trodAll_cons r2
  obtain ⟨v4, vs4, d4, ds4, p4, q4, rfl, rfl, rfl, h4, r4⟩ := trodAll_cons r3
  obtain ⟨v5, vs5, d5, ds5, p5, q5, rfl, rfl, rfl, h5, r5⟩ := trodAll_cons r4
  obtain ⟨v6, vs6, d6, ds6, p6, q6, rfl, rfl, rfl, h6, r6⟩ := trodAll_cons r5
  obtain ⟨rfl, rfl, rfl⟩ := trodAll_nil r6
  obtain rfl : args = #[v0, v1, v2, v3, v4, v5, v6] := by cases args; simp_all
  obtain ⟨rfl, rfl⟩ := trodVars_none hV
  obtain ⟨a0, rfl, rfl, rfl, w0⟩ := open_string Yba.underlying9 (hval 0 9 v0 rfl rfl) h0
  obtain ⟨a1, rfl, rfl, rfl, w1⟩ := open_int Yba.underlying2 (hval 1 2 v1 rfl rfl) h1
  obtain ⟨a2, rfl, rfl, rfl, w2⟩ := open_int Yba.underlying2 (hval 2 2 v2 rfl rfl) h2
  obtain ⟨a3, rfl, rfl, rfl, w3⟩ := open_int Yba.underlying5 (hval 3 5 v3 rfl rfl) h3
  obtain ⟨a4, len4, cap4, rfl⟩ := okWide_slice Yba.underlying22 (hval 4 22 v4 rfl rfl)
  have k4 := h4
  have lt4 : ∀ x ∈ p4, x.block < W.heap.size := by obtain ⟨m, hm⟩ := k4; exact DataW.trod_lt m _ _ _ hm
  obtain ⟨bn, on, nn, w4⟩ : ∃ b o ns, IsStrs W a4 len4 b o ns := by
    obtain ⟨fuel, hf⟩ := h4
    exact open_strs hf
  obtain ⟨a5, len5, cap5, rfl⟩ := okWide_slice Yba.underlying23 (hval 5 23 v5 rfl rfl)
  have k5 := h5
  have lt5 : ∀ x ∈ p5, x.block < W.heap.size := by obtain ⟨m, hm⟩ := k5; exact DataW.trod_lt m _ _ _ hm
  obtain ⟨bb, ob, bs, w5⟩ : ∃ b o bs, IsBytes W a5 len5 b o bs := by
    obtain ⟨fuel, hf⟩ := h5
    exact open_bytes hf
  obtain ⟨a6, rfl, rfl, rfl, w6⟩ := open_int Yba.underlying5 (hval 6 5 v6 rfl rfl) h6
  clear hA0 hval0
  refine (walked a0 a1 a2 a3 a6 len5 len4 a5 a4 cap5 cap4 bb ob bn on bs nn W (bd_u8 w3) (bd_u8 w6) w5 w4).mono fun e W' ⟨he, bel⟩ => ?_
  subst he
  exact ⟨_, rfl, _, _, _, [], _, [], hW', trodAll_mk1 (shut_bool Yba.underlying4 _), (trodAll_cons_mk (shut_string Yba.underlying9 w0) (trodAll_cons_mk (shut_int Yba.underlying2 w1) (trodAll_cons_mk (shut_int Yba.underlying2 w2) (trodAll_cons_mk (shut_int Yba.underlying5 w3)
    (trodAll_cons_mk (Below.trod laidOut (by kernel_rfl) (of_decide_eq_true (by kernel_rfl)) k4 bel lt4) (trodAll_cons_mk (Below.trod laidOut (by kernel_rfl) (of_decide_eq_true (by kernel_rfl)) k5 bel lt5) (trodAll_cons_mk (shut_int Yba.underlying5 w6) trodAll_mk0))))))), rfl, bel.frame _, fun h => by cases h⟩

/-- THE STATEMENT. -/
theorem fields_proved : Rows.LawS2552BFieldsSaid :=
  OpenClaim.holds_of_wide 3 Yba.f3 rfl rfl rfl rfl rfl rfl rfl ⟨rfl, rfl, rfl, rfl, rfl⟩ rfl rfl rfl rfl rfl (by kernel_rfl) Yba.func3 (by kernel_rfl)
    (of_decide_eq_true (by kernel_rfl)) (by unfold Func.isWrapper; first | (rw [if_pos (by decide +kernel)]; kernel_rfl) | (rw [if_neg (by decide +kernel)]; exact ⟨rfl, rfl⟩))
    (fun os started H enc _ => lifted os started H enc)

end Go.Proofs.Ybulkazve
