/-
  WHAT A STEP LEAVES AS IT WAS; A SLICE THAT GROWS BY append, its row in a block of its own.
-/
import Derived.Test.YbulkazxiNan
import Derived.Deep.AppendLies
import Derived.Laws.OwnMore
namespace Go.Proofs.Ybulkazxi
open Go.RowKit

/-- w' is w but for the blocks of F and new ones. -/
structure Chg (F : Nat → Prop) (w w' : World) : Prop where
  os : w'.os = w.os
  tape : w'.tape = w.tape
  output : w'.output = w.output
  size : w.heap.size ≤ w'.heap.size
  block : ∀ k, k < w.heap.size → ¬ F k → w'.heap[k]? = w.heap[k]?

namespace Chg
variable {F G : Nat → Prop} {a b c : World}

theorem refl (F : Nat → Prop) (a : World) : Chg F a a := ⟨rfl, rfl, rfl, Nat.le_refl _, fun _ _ _ => rfl⟩
theorem trans (h : Chg F a b) (k : Chg F b c) : Chg F a c :=
  ⟨k.os.trans h.os, k.tape.trans h.tape, k.output.trans h.output, Nat.le_trans h.size k.size, fun j hj hn => (k.block j (Nat.lt_of_lt_of_le hj h.size) hn).trans (h.block j hj hn)⟩
theorem mono (h : Chg F a b) (hs : ∀ k, F k → G k) : Chg G a b := ⟨h.os, h.tape, h.output, h.size, fun k hk hn => h.block k hk (fun hf => hn (hs k hf))⟩
theorem drewN (h : Chg F a b) (m : Nat) : Chg F a (b.drewN m) := ⟨h.os, h.tape, h.output, h.size, h.block⟩
theorem drew (h : Chg F a b) : Chg F a b.drew := ⟨h.os, h.tape, h.output, h.size, h.block⟩
theorem alloc (h : Chg F a b) (o : Obj) : Chg F a (b.alloc o) :=
  ⟨h.os, h.tape, h.output, Nat.le_trans h.size (by simp), fun k hk hn => (Below.heap_alloc _ _ _ (Nat.lt_of_lt_of_le hk h.size)).trans (h.block k hk hn)⟩
theorem setCell (h : Chg F a b) {p : Addr} (hp : F p.block ∨ a.heap.size ≤ p.block) (u : Value) : Chg F a (b.setCell p u) :=
  ⟨h.os, h.tape, h.output, by rw [size_set]; exact h.size, fun k hk hn => (Below.heap_setCell _ _ _ _ (by
    intro e; subst e
    rcases hp with hp | hp
    · exact hn hp
    · omega)).trans (h.block k hk hn)⟩
theorem of_grown {r : Option Nat} (h : a.grownBy b r) : Chg (fun k => r = some k) a b := ⟨h.os, h.tape, h.output, h.size, fun k hk hn => h.block k hk (fun e => hn e.symm)⟩
theorem of_below (h : Below a.heap.size a b) (F : Nat → Prop) : Chg F a b := ⟨h.os, h.tape, h.output, h.size, fun k hk _ => h.block k hk⟩
/-- A step that begins where the last ended; what it may turn besides are blocks that are new to a. -/
theorem step (h : Chg F a b) (k : Chg G b c) (hs : ∀ j, G j → F j ∨ a.heap.size ≤ j) : Chg F a c :=
  ⟨k.os.trans h.os, k.tape.trans h.tape, k.output.trans h.output, Nat.le_trans h.size k.size, fun j hj hn => (k.block j (Nat.lt_of_lt_of_le hj h.size) (fun g => by
    rcases hs j g with f | f
    · exact hn f
    · omega)).trans (h.block j hj hn)⟩
theorem cell (h : Chg F a b) {p : Addr} (hp : p.block < a.heap.size) (hn : ¬ F p.block) : b.cell? p = a.cell? p := World.cell?_of_block (h.block _ hp hn)
theorem frozen (h : Chg F a b) {p : Addr} (hp : p.block < a.heap.size) (hn : ¬ F p.block) : b.frozen? p = a.frozen? p := World.frozen?_of_block (h.block _ hp hn)
end Chg

/-! ### A row that a value owns -/
theorem own_lt {w : World} {base : Nat} {e : TypeId} {sz : Nat} {v : Value} {n : Nat} {xs : List Value} (h : w.ownsRow base e sz v n xs) {g : Nat} (hg : v.ownBlock = some g) : base ≤ g ∧ g < w.heap.size := by
  rcases h.2 with ⟨rfl, _⟩ | ⟨g', cap, cur, rfl, hb, hh, _⟩
  · cases hg
  · have : g' = g := by simpa [Value.ownBlock] using hg
    subst this
    exact ⟨hb, (Array.getElem?_eq_some_iff.1 hh).1⟩

theorem own_of {w w' : World} {base : Nat} {e : TypeId} {sz : Nat} {v : Value} {n : Nat} {xs : List Value} (h : w.ownsRow base e sz v n xs) (hb : ∀ g, v.ownBlock = some g → w'.heap[g]? = w.heap[g]?) : w'.ownsRow base e sz v n xs := by
  refine ⟨h.1, ?_⟩
  rcases h.2 with h0 | ⟨g, cap, cur, rfl, hbs, hh, rest⟩
  · exact .inl h0
  · exact .inr ⟨g, cap, cur, rfl, hbs, (hb g rfl).trans hh, rest⟩

/-- Behind a step that turns no cell of it. -/
theorem own_chg {F : Nat → Prop} {w w' : World} {base : Nat} {e : TypeId} {sz : Nat} {v : Value} {n : Nat} {xs : List Value} (h : w.ownsRow base e sz v n xs) (hc : Chg F w w') (hn : ∀ g, v.ownBlock = some g → ¬ F g) : w'.ownsRow base e sz v n xs :=
  own_of h fun g hg => hc.block g (own_lt h hg).2 (hn g hg)

theorem own_alloc {w : World} {base : Nat} {e : TypeId} {sz : Nat} {v : Value} {n : Nat} {xs : List Value} (h : w.ownsRow base e sz v n xs) (o : Obj) : (w.alloc o).ownsRow base e sz v n xs :=
  own_of h fun _ hg => Below.heap_alloc w o _ (own_lt h hg).2

theorem own_slice {w : World} {base : Nat} {e : TypeId} {sz : Nat} {v : Value} {n : Nat} {xs : List Value} (h : w.ownsRow base e sz v n xs) : ∃ p c, v = .slice p n c := by
  rcases h.2 with ⟨rfl, rfl⟩ | ⟨g', cap, cur, rfl, _⟩
  · exact ⟨_, _, rfl⟩
  · exact ⟨_, _, rfl⟩

/-- A variable (one cell, at p) that holds a slice with a row of its own. -/
structure Acc (w : World) (base : Nat) (p : Addr) (e : TypeId) (sz : Nat) (v : Value) (n : Nat) (xs : List Value) : Prop where
  cell : w.cell? p = some v
  frz : w.frozen? p = false
  own : w.ownsRow base e sz v n xs
  lt : p.block < base
  le : base ≤ w.heap.size

theorem Acc.chg {F : Nat → Prop} {w w' : World} {base : Nat} {p : Addr} {e : TypeId} {sz : Nat} {v : Value} {n : Nat} {xs : List Value} (h : Acc w base p e sz v n xs) (hc : Chg F w w') (hp : ¬ F p.block) (hn : ∀ g, v.ownBlock = some g → ¬ F g) : Acc w' base p e sz v n xs :=
  have hl : p.block < w.heap.size := Nat.lt_of_lt_of_le h.lt h.le
  ⟨(hc.cell hl hp).trans h.cell, (hc.frozen hl hp).trans h.frz, own_chg h.own hc hn, h.lt, Nat.le_trans h.le hc.size⟩

/-- What a step turns that appends to the variable. -/
def Grew (w w' : World) (p : Addr) (v v' : Value) : Prop :=
  Chg (fun j => j = p.block ∨ v.ownBlock = some j) w w' ∧ ∀ g, v'.ownBlock = some g → v.ownBlock = some g ∨ w.heap.size ≤ g

theorem Acc.below {w w' : World} {base : Nat} {p : Addr} {e : TypeId} {sz : Nat} {v : Value} {n : Nat} {xs : List Value} (h : Acc w base p e sz v n xs) (hb : Below w.heap.size w w') : Acc w' base p e sz v n xs :=
  h.chg (Chg.of_below hb fun _ => False) id fun _ _ f => f
theorem Grew.below {w w1 w2 : World} {p : Addr} {v v' : Value} (h : Grew w w1 p v v') (hb : Below w1.heap.size w1 w2) : Grew w w2 p v v' :=
  ⟨h.1.step (Chg.of_below hb fun _ => False) (fun _ f => f.elim), h.2⟩

/-- The new slice laid into the variable. -/
theorem Acc.put {w w1 : World} {base : Nat} {p : Addr} {e : TypeId} {sz : Nat} {v : Value} {n : Nat} {xs : List Value} (h : Acc w base p e sz v n xs) {w0 : World} (h0 : Chg (fun _ => False) w w0) {v' : Value} {n' : Nat} {xs' : List Value}
    (hown : w1.ownsRow base e sz v' n' xs') (hg : w0.grownBy w1 v.ownBlock) (hat : ∀ g, v'.ownBlock = some g → v.ownBlock = some g ∨ g = w0.heap.size) :
    Acc (w1.setCell p v') base p e sz v' n' xs' ∧ Grew w (w1.setCell p v') p v v' := by
  have hl : p.block < w.heap.size := Nat.lt_of_lt_of_le h.lt h.le
  have hno : v.ownBlock ≠ some p.block := fun he => by
    have := (own_lt h.own he).1
    have := h.lt
    omega
  have c1 : Chg (fun j => v.ownBlock = some j) w w1 := Chg.step (h0.mono fun _ f => f.elim) (Chg.of_grown hg) (fun j hj => .inl hj)
  have hc : w1.cell? p = some v := (c1.cell hl hno).trans h.cell
  have hf : w1.frozen? p = false := (c1.frozen hl hno).trans h.frz
  refine ⟨⟨?_, ?_, ?_, h.lt, ?_⟩, ?_, ?_⟩
  · exact World.cell?_setCell_same' w1 p v' (by rw [hc]; rfl)
  · rw [World.frozen?_setCell]; exact hf
  · exact own_of hown fun g hgb => Below.heap_setCell _ _ _ _ (by
      intro e; subst e
      have := (own_lt hown hgb).1
      have := h.lt
      omega)
  · rw [size_set]; exact Nat.le_trans h.le c1.size
  · exact (c1.mono fun _ hj => .inr hj).setCell (.inl (.inl rfl)) _
  · intro g hgb
    rcases hat g hgb with hh | hh
    · exact .inl hh
    · right; rw [hh]; exact h0.size

end Go.Proofs.Ybulkazxi
