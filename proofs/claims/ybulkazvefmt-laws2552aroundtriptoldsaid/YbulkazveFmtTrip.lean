/-
  LawS2552ARoundTrip: THE WALK.
-/
import Derived.Test.YbulkazveFmtSplit
import Derived.Test.YbulkazveFmtJoin
namespace Go.Proofs.YbulkazveFmt
open Go.RowKit Go.Extern.Stop Go.Stop Go.Extern

theorem bel_end2 {w w1 w3 : World} {o1 o3 : Obj} (h1 : Below w.heap.size w w1) (h3 : Below (w1.alloc o1).heap.size (w1.alloc o1) w3) : Below w.heap.size w (w3.alloc o3) := by
  have s1 := h1.size
  have s3 := h3.size
  simp at s3
  exact ((h1.alloc s1 _).trans (h3.mono (by simp; omega))).alloc (by omega) _

set_option maxRecDepth 100000 in
set_option maxHeartbeats 1000000 in
theorem trip_walk (F : Interp) (a b c : Nat) (ep tk t nd sq : Int) (w : World) (hF : F.answers w.tape) (ha : a ≤ 255) (hb : b ≤ 255) (hc : c ≤ 255)
    (t0 : 0 ≤ t) (nd0 : 0 ≤ nd) (sq0 : 0 ≤ sq) (t64 : t < 2 ^ 64) (nd64 : nd < 2 ^ 64) (sq64 : sq < 2 ^ 64) :
    Calls Ybaf.prog 4 #[.int .u8 a, .int .u8 b, .int .u8 c, .int .i64 ep, .int .i64 tk, .int .u64 t, .int .u64 nd, .int .u64 sq] w fun e w' => e = .returned (.bool true) ∧ Below w.heap.size w w' := by
  have T64 : Hid (t < 2 ^ 64 ∧ nd < 2 ^ 64 ∧ sq < 2 ^ 64) := ⟨t64, nd64, sq64⟩
  clear t64 nd64 sq64
  go_enter Ybaf.func4, Ybaf.ntmps4
  go_wp2_with fail
  refine (layout_lit a b c ep tk _ ha hb hc).mono ?_
  rintro e w1 ⟨tb, nb, sb, G, t1, n1, s1, hT, rfl, hb1⟩
  have hF1 : Hid (F.answers w1.tape) := by rw [hb1.tape]; exact hF
  go_upto_region 6 with fail
  rw [umask t tb (by omega) t0 T64.out.1, umask nd nb (by omega) nd0 T64.out.2.1, umask sq sb (by omega) sq0 T64.out.2.2]
  have a1 := Int.emod_nonneg t (Int.ne_of_gt (pow_pos tb))
  have a2 := Int.emod_lt_of_pos t (pow_pos tb)
  have a3 := Int.emod_nonneg nd (Int.ne_of_gt (pow_pos nb))
  have a4 := Int.emod_lt_of_pos nd (pow_pos nb)
  have a5 := Int.emod_nonneg sq (Int.ne_of_gt (pow_pos sb))
  have a6 := Int.emod_lt_of_pos sq (pow_pos sb)
  generalize t % 2 ^ tb = T at *
  generalize nd % 2 ^ nb = N at *
  generalize sq % 2 ^ sb = S at *
  rw [join_eq T N S tb nb sb hT a1 a2 a3 a4 a5 a6]
  obtain ⟨_, _, _, _, b5, b6⟩ := join_bd T N S tb nb sb a1 a2 a3 a4 a5 a6
  obtain ⟨j1, j2, j3⟩ := join_parts T N S nb sb a3 a4 a5 a6
  generalize T * 2 ^ (nb + sb) + N * 2 ^ sb + S = id at *
  have HM := topOf_pow tb nb sb hT
  have HN := maxOf_pow nb (by omega)
  have HS := maxOf_pow sb (by omega)
  generalize topOf tb nb sb = M at *
  generalize maxOf nb = mN at *
  generalize maxOf sb = mS at *
  generalize maxOf tb = mT at *
  have hidM : id ≤ M := by omega
  have i63 : id < 2 ^ 63 := id_lt hT HM hidM
  have T63 : T < 2 ^ 63 := Int.lt_of_lt_of_le a2 (pow_le63 tb (by omega))
  have N63 : N < 2 ^ 63 := Int.lt_of_lt_of_le a4 (pow_le63 nb (by omega))
  have S63 : S < 2 ^ 63 := Int.lt_of_lt_of_le a6 (pow_le63 sb (by omega))
  have e3 : min sb 64 = sb := by omega
  have e4 : min (nb + sb) 64 = nb + sb := by omega
  have e5 : bits BinOp.and IntKind.i64 id mS = S := by rw [HS, ← j1]; exact and_mask id sb (by omega) b5 i63
  have e6 : bits BinOp.and IntKind.i64 (id / 2 ^ min sb 64) mN = N := by rw [e3, HN, ← j2]; exact and_mask _ nb (by omega) (div_lt63 id sb b5 i63).1 (div_lt63 id sb b5 i63).2
  have e7 : id / 2 ^ min (nb + sb) 64 = T := by rw [e4]; exact j3
  have wT : wrap64 T = T := by unfold wrap64; omega
  have wN : wrap64 N = N := by unfold wrap64; omega
  have wS : wrap64 S = S := by unfold wrap64; omega
  have E : Hid (bits BinOp.and IntKind.i64 id mS = S ∧ bits BinOp.and IntKind.i64 (id / 2 ^ min sb 64) mN = N ∧ id / 2 ^ min (nb + sb) 64 = T ∧ wrap64 T = T ∧ wrap64 N = N ∧ wrap64 S = S) := ⟨e5, e6, e7, wT, wN, wS⟩
  clear e3 e4 e5 e6 e7 wT wN wS j1 j2 j3 HM HN HS i63 T63 N63 S63 a1 a2 a3 a4 a5 a6 b6
  by_cases h0 : id = 0
  · subst h0
    go_wp2_with fail
    refine (decode_no F _ ep tk 0 tb nb sb _ _ _ _ _ mT mN mS M _ (by exact hF1.out) (.inl (by decide))).mono ?_
    rintro e w3 ⟨eb, rfl, hb3⟩
    go_wp2
    go_ret
    exact ⟨rfl, bel_end2 hb1 hb3⟩
  · have hne : (id == 0) = false := by simpa using h0
    have hpos : 1 ≤ id := by omega
    clear h0
    go_wp2_with fail
    refine (decode_ok _ ep tk id tb nb sb _ _ _ _ _ mT mN mS M _ (by omega) (by omega) (by omega) (by omega)).mono ?_
    rintro e w3 ⟨rfl, hb3⟩
    go_upto_region 9 with fail
    obtain ⟨e5, e6, e7, wT, wN, wS⟩ := E.out
    rw [e5, e6, e7]
    clear e5 e6 e7 E hpos hne hidM
    go_wp2
    go_ret
    exact ⟨by simp, bel_end2 hb1 hb3⟩

end Go.Proofs.YbulkazveFmt
