/-
  No cell of these rows narrows 'for every input' (looked for: loops, veiled, ifaces, maps, wideKeys, modest, calm, conditions, laid).
  DERIVED. THE GIVEN ROWS OF THIS SEAT. 2 by the template 'for every input the law returns true; each argument reads behind the call as it read before'; 0 by the template 'total and deterministic' (their statements: YbulkazveTotals.lean).
  GIVEN WITH THE SEED: the statements are not yours to turn. If you find one false, say at which input.
  Laid BY PROGRAM, IN A SANDBOX (cutbox-rows.mjs): the forced cells as the released guide's own fill.sh prints them over the translation 71409c5e340990fc… (all of the seat's roots in one cut). By AI agents, Wed Nov 11 2026. No macro, syntax, notation, axiom, sorry.
-/
import Derived.Test.YbulkazveChecked
import GoSem.Claim
import GoSem.ClaimJoined
import GoSem.ClaimMapViews
import Derived.JoinedTies
import Derived.KernelRfl
namespace Go.Proofs.Ybulkazve
/- THE CELL 'sum', in the pinned program and in every row, IS THE sha256 OF THE DUMP (.gsa) THAT YbulkazveProg.lean LOADS. Nothing in Lean hashes anything: it is a label: what it is worth is what the hold of that sum in a sandbox is worth. -/
noncomputable def Yba.pinned : Pinned := { name := "ybulkazve", sum := "71409c5e340990fc498bf9f02e4a55d55a30b01740470d81875e9d17f863f799", checked := Yba.checked }
namespace Rows
def none {H : Type} : Left H := { results := [], args := [] }

/-- 'hailstone.LawS2552BFields': WHATEVER THE INPUT: true; the input reads as it did. -/
def lawS2552BFieldsSpec : ChangeSpec := { name := "lawS2552BFields", fn := fun _ => fun
  | [d1, d2, d3, d4, d5, d6, d7] => { results := [.lit (.bool true)], args := [d1, d2, d3, d4, d5, d6, d7] }
  | _ => none }
def lawS2552BFieldsRow : OpenClaim := { program := "ybulkazve", sum := "71409c5e340990fc498bf9f02e4a55d55a30b01740470d81875e9d17f863f799", func := "example.com/hailstone/hailstone.LawS2552BFields", spec := "lawS2552BFields", apart := false }
def LawS2552BFieldsSaid : Prop := lawS2552BFieldsRow.holds Yba.pinned (OpenSpec.ofChange lawS2552BFieldsSpec)

/-- ITS FALSE NEIGHBOUR: 'it returns false'. Refute it at one input. -/
def lawS2552BFieldsWrong : ChangeSpec := { name := "lawS2552BFields", fn := fun _ => fun
  | [d1, d2, d3, d4, d5, d6, d7] => { results := [.lit (.bool false)], args := [d1, d2, d3, d4, d5, d6, d7] }
  | _ => none }
def LawS2552BFieldsWrongFalsely : Prop := lawS2552BFieldsRow.holds Yba.pinned (OpenSpec.ofChange lawS2552BFieldsWrong)

/-- 'hailstone.LawS2552BPack': WHATEVER THE INPUT: true; the input reads as it did. -/
def lawS2552BPackSpec : ChangeSpec := { name := "lawS2552BPack", fn := fun _ => fun
  | [d1, d2, d3] => { results := [.lit (.bool true)], args := [d1, d2, d3] }
  | _ => none }
def lawS2552BPackRow : OpenClaim := { program := "ybulkazve", sum := "71409c5e340990fc498bf9f02e4a55d55a30b01740470d81875e9d17f863f799", func := "example.com/hailstone/hailstone.LawS2552BPack", spec := "lawS2552BPack", apart := false }
def LawS2552BPackSaid : Prop := lawS2552BPackRow.holds Yba.pinned (OpenSpec.ofChange lawS2552BPackSpec)

/-- ITS FALSE NEIGHBOUR: 'it returns false'. Refute it at one input. -/
def lawS2552BPackWrong : ChangeSpec := { name := "lawS2552BPack", fn := fun _ => fun
  | [d1, d2, d3] => { results := [.lit (.bool false)], args := [d1, d2, d3] }
  | _ => none }
def LawS2552BPackWrongFalsely : Prop := lawS2552BPackRow.holds Yba.pinned (OpenSpec.ofChange lawS2552BPackWrong)

end Rows
end Go.Proofs.Ybulkazve
