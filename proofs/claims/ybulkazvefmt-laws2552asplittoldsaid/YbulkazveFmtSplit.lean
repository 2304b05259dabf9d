/-
  LawS2552ASplit: THE WALK.
-/
import Derived.Test.YbulkazveFmtPlain
import Derived.Stop.IfaceNil
namespace Go.Proofs.YbulkazveFmt
open Go.RowKit Go.Extern.Stop Go.Stop Go.Extern

theorem layout_lit (a b c : Nat) (ep tk : Int) (w : World) (ha : a ≤ 255) (hb : b ≤ 255) (hc : c ≤ 255) :
    Calls Ybaf.prog 5 #[.int .u8 a, .int .u8 b, .int .u8 c, .int .i64 ep, .int .i64 tk] w fun e w' => ∃ tb nb sb F : Nat, 1 ≤ tb ∧ 1 ≤ nb ∧ 1 ≤ sb ∧ tb + nb + sb ≤ 63 ∧
      e = .returned (.tuple #[.agg #[.string ⟨#[99, 117, 115, 116, 111, 109]⟩, .int .i64 ep, .int .i64 tk, .int .u64 tb, .int .u64 nb, .int .u64 sb, .slice (some ⟨F, 0, none⟩) 2 2, .int .u64 ((nb : Int) + (sb : Int)), .int .u64 sb,
        .int .i64 (maxOf tb), .int .i64 (maxOf nb), .int .i64 (maxOf sb), .int .i64 (topOf tb nb sb)], .int .u64 tb, .int .u64 nb, .int .u64 sb]) ∧ Below w.heap.size w w' := layout_any a b c ep tk w ha hb hc

theorem maxID_eq (nm : ByteArray) (ep tk : Int) (tb nd sq : Nat) (fa : Option Addr) (fl fc : Nat) (ts ns mT mN mS mI : Int) (w : World) :
    Calls Ybaf.prog 6 #[.agg #[.string nm, .int .i64 ep, .int .i64 tk, .int .u64 tb, .int .u64 nd, .int .u64 sq, .slice fa fl fc, .int .u64 ts, .int .u64 ns, .int .i64 mT, .int .i64 mN, .int .i64 mS, .int .i64 mI]] w
      fun e w' => e = .returned (.int .i64 mI) ∧ w' = w.alloc (.cells #[.string nm, .int .i64 ep, .int .i64 tk, .int .u64 tb, .int .u64 nd, .int .u64 sq, .slice fa fl fc, .int .u64 ts, .int .u64 ns, .int .i64 mT, .int .i64 mN, .int .i64 mS, .int .i64 mI] 27) := by
  go_enter Ybaf.func6, Ybaf.ntmps6
  go_wp2
  go_ret
  exact ⟨rfl, rfl⟩

theorem bel_end {w w1 w3 : World} {o1 o2 o3 : Obj} (h1 : Below w.heap.size w w1) (h3 : Below ((w1.alloc o1).alloc o2).heap.size ((w1.alloc o1).alloc o2) w3) : Below w.heap.size w (w3.alloc o3) := by
  have s1 := h1.size
  have s3 := h3.size
  simp at s3
  exact (((h1.alloc s1 _).alloc (by simp; omega) _).trans (h3.mono (by simp; omega))).alloc (by omega) _

theorem quo_eq (x q : Int) (h0 : 0 ≤ x) (h1 : x < 2 ^ 63) (_hq : 0 < q) : wrap64 (x.tdiv q) = x / q := by
  rw [Int.tdiv_eq_ediv_of_nonneg h0]
  have a := Int.ediv_nonneg h0 (Int.le_of_lt _hq)
  have b := Int.ediv_le_self q h0
  unfold wrap64
  omega

theorem wrap_pow_all : ∀ k : Fin 63, wrap64 (2 ^ k.val) = 2 ^ k.val := by decide +kernel
theorem wrap_pow (k : Nat) (h : k ≤ 62) : wrap64 (2 ^ k) = 2 ^ k := wrap_pow_all ⟨k, by omega⟩
theorem id_lt {id M : Int} {T : Nat} (hT : T ≤ 63) (hM : M = 2 ^ T - 1) (h : id ≤ M) : id < 2 ^ 63 := by
  have : (2 : Int) ^ T ≤ 2 ^ 63 := by exact_mod_cast Nat.pow_le_pow_right (n := 2) (by decide) hT
  omega

set_option maxRecDepth 100000 in
set_option maxHeartbeats 1000000 in
theorem split_walk (F : Interp) (a b c : Nat) (ep tk id : Int) (w : World) (hF : F.answers w.tape) (ha : a ≤ 255) (hb : b ≤ 255) (hc : c ≤ 255) :
    Calls Ybaf.prog 3 #[.int .u8 a, .int .u8 b, .int .u8 c, .int .i64 ep, .int .i64 tk, .int .i64 id] w fun e w' => e = .returned (.bool true) ∧ Below w.heap.size w w' := by
  go_enter Ybaf.func3, Ybaf.ntmps3
  go_wp2_with fail
  refine (layout_lit a b c ep tk _ ha hb hc).mono ?_
  rintro e w1 ⟨tb, nb, sb, G, t1, n1, s1, hT, rfl, hb1⟩
  have hF1 : Hid (F.answers w1.tape) := by rw [hb1.tape]; exact hF
  go_upto_region 4 with fail
  rw [lawMax tb nb sb hT]
  have HM := topOf_pow tb nb sb hT
  have HN := maxOf_pow nb (by omega)
  have HS := maxOf_pow sb (by omega)
  generalize topOf tb nb sb = M at *
  generalize maxOf nb = mN at *
  generalize maxOf sb = mS at *
  generalize maxOf tb = mT at *
  have HM' : Hid (M = 2 ^ (tb + nb + sb) - 1) := HM
  have HN' : Hid (mN = 2 ^ nb - 1) := HN
  have HS' : Hid (mS = 2 ^ sb - 1) := HS
  clear HM HN HS
  go_wp2_with fail
  refine (maxID_eq _ ep tk tb nb sb _ _ _ _ _ mT mN mS M _).mono ?_
  rintro e w2 ⟨rfl, rfl⟩
  by_cases hid : id < 1 ∨ M < id
  · have HID : Hid (id < 1 ∨ M < id) := hid
    by_cases h1 : id < 1
    · clear hid
      go_wp2_with fail
      refine (decode_no F _ ep tk id tb nb sb _ _ _ _ _ mT mN mS M _ (by exact hF1.out) HID.out).mono ?_
      rintro e w3 ⟨eb, rfl, hb3⟩
      go_wp2
      go_ret
      exact ⟨rfl, bel_end hb1 hb3⟩
    · have h2 : M < id := hid.resolve_left h1
      clear hid
      go_wp2_with fail
      refine (decode_no F _ ep tk id tb nb sb _ _ _ _ _ mT mN mS M _ (by exact hF1.out) HID.out).mono ?_
      rintro e w3 ⟨eb, rfl, hb3⟩
      go_wp2
      go_ret
      exact ⟨rfl, bel_end hb1 hb3⟩
  · have h1 : ¬ id < 1 := fun h => hid (.inl h)
    have h2 : ¬ M < id := fun h => hid (.inr h)
    clear hid
    go_wp2_with fail
    refine (decode_ok _ ep tk id tb nb sb _ _ _ _ _ mT mN mS M _ (by omega) (by omega) (by omega) (by omega)).mono ?_
    rintro e w3 ⟨rfl, hb3⟩
    go_upto_region 13 with fail
    have i0 : 0 ≤ id := by omega
    have i63 : Hid (id < 2 ^ 63) := id_lt hT HM'.out (by omega)
    have e1 : wrap64 (2 ^ sb) = 2 ^ sb := wrap_pow sb (by omega)
    have e2 : wrap64 (2 ^ nb) = 2 ^ nb := wrap_pow nb (by omega)
    have e3 : min sb 64 = sb := by omega
    have e4 : min (nb + sb) 64 = nb + sb := by omega
    have e5 : bits BinOp.and IntKind.i64 id mS = id % 2 ^ sb := by rw [HS'.out]; exact and_mask id sb (by omega) i0 i63.out
    have e6 : bits BinOp.and IntKind.i64 (id / 2 ^ sb) mN = id / 2 ^ sb % 2 ^ nb := by rw [HN'.out]; exact and_mask _ nb (by omega) (div_lt63 id sb i0 i63.out).1 (div_lt63 id sb i0 i63.out).2
    have e7 : id / 2 ^ (nb + sb) = id / 2 ^ sb / 2 ^ nb := (div_div id sb nb).symm
    rw [e1, e2, e3, e4, e5, e6, e7]
    have p1 := pow_pos sb
    have p2 := pow_pos nb
    have p3 := (div_lt63 id sb i0 i63.out).1
    clear e1 e2 e3 e4 e5 e6 e7
    generalize (2 : Int) ^ sb = q at *
    generalize (2 : Int) ^ nb = r at *
    go_upto_region 15 with fail
    rw [quo_eq id q i0 i63.out p1]
    have d63 : Hid (id / q < 2 ^ 63) := Int.lt_of_le_of_lt (Int.ediv_le_self _ i0) i63.out
    generalize id / q = d at *
    go_upto_region 17 with fail
    rw [quo_eq d r p3 d63.out p2]
    go_wp2
    go_ret
    exact ⟨by simp, bel_end hb1 hb3⟩

end Go.Proofs.YbulkazveFmt
