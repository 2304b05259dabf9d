/-
  reach, by the distance to the rectangle: a node's slots go into the queue.
-/
import Derived.Test.YbulkazxiDistance
import Derived.Test.YbulkazxiNil
import Derived.Deep.RegionHeldLaw
import Derived.Deep.RegionLaw
namespace Go.Proofs.Ybulkazxi
open Go.RowKit
attribute [local go_sem] run_store_float func_eq_nil nil_eq_nil
attribute [local go_sem ↓] Go.wp_at_zero Go.wp_at_succ

/-- The candidate of slot i of the node at b. -/
def ncd (b : Nat) (N : Nd) (ir : Nat → I4) (px py : Int) (i : Nat) : Cd := ⟨b, 6 + i * 4, b, 166 + i * 3 + 1, dk px py (ir i), N.child i⟩

/-- The queue in memory. -/
structure Qm (w : World) (R m : Nat) (g : Nat → Cd) : Prop where
  at_ : HAt w R m g
  heap : IsHeap g m
  good : ∀ j, j < m → Good w R (g j)

theorem Good.chg {F : Nat → Prop} {w w' : World} {R : Nat} {c : Cd} (h : Good w R c) (hc : Chg F w w') (hF : ¬ F c.tb) : Good w' R c :=
  ⟨Nat.lt_of_lt_of_le h.1 hc.size, h.2.1, (hc.cell (p := ⟨c.tb, c.to, none⟩) h.1 hF).trans h.2.2.1, h.2.2.2⟩

theorem Qm.far {w w' : World} {R m : Nat} {g : Nat → Cd} (h : Qm w R m g) (hc : Chg (fun _ => False) w w') : Qm w' R m g :=
  ⟨h.at_.chg hc id, h.heap, fun j hj => (h.good j hj).chg hc id⟩

/-- What the walk reads of its ranking. -/
structure Kat (w : World) (K : Nat) (px py : Int) : Prop where
  k0 : w.cell? ⟨K, 0, none⟩ = some (.float .f64 (fl px))
  k1 : w.cell? ⟨K, 1, none⟩ = some (.float .f64 (fl py))
  k2 : w.cell? ⟨K, 2, none⟩ = some (.int .u64 0)
  k3 : w.cell? ⟨K, 3, none⟩ = some .nilFunc
  k4 : w.cell? ⟨K, 4, none⟩ = some (.slice none 0 0)
  lt : K < w.heap.size

theorem Kat.chg {F : Nat → Prop} {w w' : World} {K : Nat} {px py : Int} (h : Kat w K px py) (hc : Chg F w w') (hF : ¬ F K) : Kat w' K px py :=
  ⟨(hc.cell (p := ⟨K, 0, none⟩) h.lt hF).trans h.k0, (hc.cell (p := ⟨K, 1, none⟩) h.lt hF).trans h.k1, (hc.cell (p := ⟨K, 2, none⟩) h.lt hF).trans h.k2, (hc.cell (p := ⟨K, 3, none⟩) h.lt hF).trans h.k3, (hc.cell (p := ⟨K, 4, none⟩) h.lt hF).trans h.k4, Nat.lt_of_lt_of_le h.lt hc.size⟩

set_option maxRecDepth 100000 in
set_option maxHeartbeats 2000000 in
theorem reach3_any (R K b u : Nat) (N : Nd) (ir : Nat → I4) (px py : Int) (m : Nat) (g : Nat → Cd) (w : World)
    (hx : pok px) (hy : pok py) (hN : NodeAt w b N) (hu : N.used = (u : Int)) (hu40 : u ≤ 40) (hir : ∀ i, i < u → N.rect i = (ir i).fl ∧ (ir i).ok) (hK : Kat w K px py) (hbR : b ≠ R) (hKR : K ≠ R) (hQ : Qm w R m g) (hroom : m + u ≤ 320) :
    Calls Yba.prog 22 #[.slice (some ⟨R, 0, none⟩) m 320, .pointer (some ⟨b, 0, none⟩), .pointer (some ⟨K, 0, none⟩)] w fun e w' =>
      e = .returned (.slice (some ⟨R, 0, none⟩) (m + u) 320) ∧ ∃ g', Qm w' R (m + u) g' ∧ (L g' (m + u)).Perm ((List.range u).map (ncd b N ir px py) ++ L g m) ∧ Chg (fun j => j = R) w w' := by
  have H1 : Hid (Calls Yba.prog 32 #[.pointer (some ⟨b, 0, none⟩)] w fun e w' => e = .returned (.int .u64 0) ∧ w' = w) := chained_any _ _ _ hN.chainc
  have H2 : Hid (Calls Yba.prog 33 #[.pointer (some ⟨b, 0, none⟩)] w fun e w' => e = .returned (.int .i64 u) ∧ w' = w) := used_any _ _ _ hu40 (by rw [← hu]; exact hN.usedc)
  have a0 : w.cell? ⟨b, 0, none⟩ = some (.bool N.leaf) := hN.leafc
  have a1 := hK.k3
  have HA : Hid (NodeAt w b N ∧ Kat w K px py ∧ Qm w R m g) := ⟨hN, hK, hQ⟩
  have HI : Hid (∀ i, i < u → N.rect i = (ir i).fl ∧ (ir i).ok) := hir
  have HP : Hid (pok px ∧ pok py) := ⟨hx, hy⟩
  clear hN hK hQ hir hx hy hu
  go_enter Yba.func22, Yba.ntmps22
  go_upto_region 2 with (go_at_call 32; refine H1.out.mono ?_; rintro e w' ⟨rfl, hw⟩; obtain rfl := hw.symm)
  go_cut [30] from 19 (fun v wc => v = .bool true ∧ wc = w)
  case first =>
    cases hl : N.leaf with
    | true =>
      rw [hl] at a0
      go_wp2_with fail
      go_meet
      case rel => exact ⟨rfl, rfl⟩
    | false =>
      rw [hl] at a0
      go_wp2_with fail
      go_meet
      case rel => exact ⟨rfl, rfl⟩
  case rest =>
    obtain ⟨rfl, hw⟩ := hcut
    obtain rfl := hw.symm
    clear a0 a1
    go_wp2_with (go_at_call 33; refine H2.out.mono ?_; rintro e w' ⟨rfl, hw⟩; obtain rfl := hw.symm)
    clear H1 H2
    go_loopw [0, 33] (fun q i wr => ∃ (k : Nat) (g' : Nat → Cd), k ≤ u ∧ q = .slice (some ⟨R, 0, none⟩) (m + k) 320 ∧ i = .int .i64 k ∧ Qm wr R (m + k) g' ∧ (L g' (m + k)).Perm ((List.range k).map (ncd b N ir px py) ++ L g m) ∧ Chg (fun j => j = R) w wr) (fun _ i _ => u - (intOf i).toNat)
    case atStart => exact ⟨0, g, Nat.zero_le _, rfl, rfl, HA.out.2.2, List.Perm.refl _, Chg.refl _ _⟩
    case round =>
      obtain ⟨k, g', hk, rfl, rfl, hQ, hp, hc⟩ := hrel
      by_cases hlt : k < u
      · have hk40 : k < 40 := by omega
        have hkc : (k : Int) < (u : Int) := by omega
        have hN := HA.out.1.chg hc hbR
        have hK := HA.out.2.1.chg hc hKR
        obtain ⟨hre, hok⟩ := HI.out k hlt
        have s0 := hK.k0
        have s1 := hK.k1
        have s2 := hK.k2
        have n0 := hN.st hk40
        have r0 := hN.ra hk40
        have r1 := hN.rb hk40
        have r2 := hN.rc hk40
        have r3 := hN.rd hk40
        rw [hre] at r0 r1 r2 r3
        obtain ⟨rr, hrr⟩ : ∃ rr, rr = (ir k).fl := ⟨_, rfl⟩
        obtain ⟨dd, hdd⟩ : ∃ dd, dd = dk px py (ir k) := ⟨_, rfl⟩
        have HSl : Hid (∀ wx, Calls Yba.prog 34 #[.pointer (some ⟨b, 0, none⟩), .int .i64 k, .int .u64 0, .int .u64 0] wx fun e w' => e = .returned (.tuple #[.pointer (some ⟨b, 6 + k * 4, none⟩), .pointer (some ⟨b, 166 + k * 3 + 1, none⟩), .pointer (some ⟨b, 166 + k * 3, none⟩)]) ∧ ∃ n, w' = wx.drewN n) := fun wx => slot_any b k 0 wx hk40
        have HL : Hid (∀ wx, wx.cell? ⟨b, 166 + k * 3, none⟩ = some (.int .u64 0) → Calls Yba.prog 35 #[.pointer (some ⟨b, 166 + k * 3, none⟩)] wx fun e w' => e = .returned (.int .u64 0) ∧ w' = wx) := fun wx h => load_any _ _ _ _ h
        have HD : Hid (∀ wx, Calls Yba.prog 11 #[.agg #[.float .f64 rr.a, .float .f64 rr.b, .float .f64 rr.c, .float .f64 rr.d], .agg #[.float .f64 (fl px), .float .f64 (fl py)]] wx fun e w' => e = .returned (.float .f64 dd) ∧ Below wx.heap.size wx w') := fun wx => by
          rw [hrr, hdd]; exact distance_any (ir k) px py wx hok HP.out.1 HP.out.2
        have HPu : Hid (∀ wx, Chg (fun _ => False) wr wx → Calls Yba.prog 36 #[.slice (some ⟨R, 0, none⟩) (m + k) 320, .agg #[.pointer (some ⟨b, 6 + k * 4, none⟩), .pointer (some ⟨b, 166 + k * 3 + 1, none⟩), .float .f64 dd]] wx fun e w' =>
          e = .returned (.slice (some ⟨R, 0, none⟩) (m + k + 1) 320) ∧ ∃ g3, Qm w' R (m + k + 1) g3 ∧ (L g3 (m + k + 1)).Perm ((List.range (k + 1)).map (ncd b N ir px py) ++ L g m) ∧ Chg (fun j => j = R) wx w') := fun wx hwx => by
          have hQx := hQ.far hwx
          have hNx := hN.chg hwx id
          have hgd : Good wx R (ncd b N ir px py k) := ⟨hNx.lt, hbR, hNx.chc hk40, fin_dk HP.out.1 HP.out.2 hok⟩
          have h := push_any R (m + k) g' (ncd b N ir px py k) wx (by omega) hQx.at_ hgd hQx.good hQx.heap
          rw [hdd]
          refine h.mono ?_
          rintro e w3 ⟨rfl, g3, h1, h2, h3, h4⟩
          have hpp : (L g3 (m + k + 1)).Perm ((List.range (k + 1)).map (ncd b N ir px py) ++ L g m) := by
            refine h2.trans ?_
            rw [List.range_succ, List.map_append, List.append_assoc]
            refine (List.Perm.cons _ hp).trans ?_
            exact List.perm_middle.symm
          refine ⟨rfl, g3, ⟨h1, h3, fun j hj => ?_⟩, hpp, (Chg.of_grown h4).mono (fun j hj => (Option.some.inj hj).symm)⟩
          have hm : g3 j ∈ ncd b N ir px py k :: L g' (m + k) := h2.mem_iff.1 (mem_L.2 ⟨j, hj, rfl⟩)
          rcases List.mem_cons.1 hm with he | he
          · rw [he]; exact hgd.grown h4
          · obtain ⟨i, hi, hie⟩ := mem_L.1 he
            rw [← hie]; exact (hQx.good i hi).grown h4
        have hbl : b < wr.heap.size := hN.lt
        have hKl : K < wr.heap.size := hK.lt
        rw [← hrr] at r0 r1 r2 r3
        have HC : Hid (Chg (fun j => j = R) w wr) := hc
        clear hN hK hQ hp hc hre hok hrr hdd
        go_wp2_with (go_at_call 34; refine (HSl.out _).mono ?_; rintro e w' ⟨rfl, m1, rfl⟩)
        go_quiet ((go_at_call 35; exact (HL.out (wr.drewN (m1 + _)) n0).mono (fun _ _ h => ⟨h.1, _, h.2⟩)))
        go_wp2
        go_region_held (fun wx => wx.cell? ⟨K, 0, none⟩ = some (.float .f64 (fl px)) ∧ wx.cell? ⟨K, 1, none⟩ = some (.float .f64 (fl py)) ∧ wx.cell? ⟨b, 6 + k * 4, none⟩ = some (.float .f64 rr.a) ∧ wx.cell? ⟨b, 6 + k * 4 + 1, none⟩ = some (.float .f64 rr.b) ∧ wx.cell? ⟨b, 6 + k * 4 + 2, none⟩ = some (.float .f64 rr.c) ∧ wx.cell? ⟨b, 6 + k * 4 + 3, none⟩ = some (.float .f64 rr.d))
          (go_keep)
          (first | (go_at_call 11; refine (HD.out _).mono ?_; rintro e w5 ⟨rfl, hb5⟩
                    have hc5 : Chg (fun _ => False) wr w5 := Chg.step ((Chg.refl _ wr).drewN _) (Chg.of_below hb5 (fun _ => False)) (fun _ f => f.elim)
                    have p0 := (hc5.cell (p := ⟨K, 0, none⟩) hKl id).trans s0
                    have p1 := (hc5.cell (p := ⟨K, 1, none⟩) hKl id).trans s1
                    have q0 := (hc5.cell (p := ⟨b, 6 + k * 4, none⟩) hbl id).trans r0
                    have q1 := (hc5.cell (p := ⟨b, 6 + k * 4 + 1, none⟩) hbl id).trans r1
                    have q2 := (hc5.cell (p := ⟨b, 6 + k * 4 + 2, none⟩) hbl id).trans r2
                    have q3 := (hc5.cell (p := ⟨b, 6 + k * 4 + 3, none⟩) hbl id).trans r3
                    have HC5 : Hid (Chg (fun _ => False) wr w5) := hc5
                    clear hb5 hc5)
                 | (go_at_call 36; refine (HPu.out _ HC5.out).mono ?_; rintro e w6 ⟨rfl, g3, hQ3, hp3, hc6⟩
                    have hKl5 := Nat.lt_of_lt_of_le hKl HC5.out.size
                    have hbl5 := Nat.lt_of_lt_of_le hbl HC5.out.size
                    have p0' := (hc6.cell (p := ⟨K, 0, none⟩) hKl5 hKR).trans p0
                    have p1' := (hc6.cell (p := ⟨K, 1, none⟩) hKl5 hKR).trans p1
                    have q0' := (hc6.cell (p := ⟨b, 6 + k * 4, none⟩) hbl5 hbR).trans q0
                    have q1' := (hc6.cell (p := ⟨b, 6 + k * 4 + 1, none⟩) hbl5 hbR).trans q1
                    have q2' := (hc6.cell (p := ⟨b, 6 + k * 4 + 2, none⟩) hbl5 hbR).trans q2
                    have q3' := (hc6.cell (p := ⟨b, 6 + k * 4 + 3, none⟩) hbl5 hbR).trans q3
                    have HE6 : Hid (Qm w6 R (m + k + 1) g3 ∧ (L g3 (m + k + 1)).Perm ((List.range (k + 1)).map (ncd b N ir px py) ++ L g m) ∧ Chg (fun j => j = R) w w6) := ⟨hQ3, hp3, (HC.out.trans (HC5.out.mono fun _ f => f.elim)).trans hc6⟩
                    clear hQ3 hp3 hc6))
        go_wp2_with fail
        refine ⟨⟨k + 1, g3, by omega, rfl, by simp, HE6.out⟩, by simp [intOf]; omega⟩
      · obtain rfl : u = k := by omega
        have HE : Hid (Qm wr R (m + u) g' ∧ (L g' (m + u)).Perm ((List.range u).map (ncd b N ir px py) ++ L g m) ∧ Chg (fun j => j = R) w wr) := ⟨hQ, hp, hc⟩
        clear hQ hp hc
        go_wp2_with fail
        go_ret
        exact ⟨rfl, g', HE.out⟩

end Go.Proofs.Ybulkazxi
