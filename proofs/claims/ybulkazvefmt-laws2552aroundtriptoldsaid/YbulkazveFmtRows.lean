/-
  No cell of these rows narrows 'for every input' (looked for: loops, veiled, ifaces, maps, wideKeys, modest, calm, conditions, laid).
  DERIVED. THE GIVEN ROWS OF THIS SEAT. 2 by the template 'for every input the law returns true; each argument reads behind the call as it read before'; 0 by the template 'total and deterministic' (their statements: YbulkazveFmtTotals.lean).
  GIVEN WITH THE SEED: the statements are not yours to turn. If you find one false, say at which input.
  Laid BY PROGRAM, IN A SANDBOX (cutbox-rows.mjs): the forced cells as the released guide's own fill.sh prints them over the translation 206c89e373de981f… (all of the seat's roots in one cut). By AI agents, Wed Nov 11 2026. No macro, syntax, notation, axiom, sorry.
-/
import Derived.Test.YbulkazveFmtChecked
import GoSem.Claim
import GoSem.ClaimJoined
import GoSem.ClaimMapViews
import Derived.JoinedTies
import Derived.KernelRfl
namespace Go.Proofs.YbulkazveFmt
/- THE CELL 'sum', in the pinned program and in every row, IS THE sha256 OF THE DUMP (.gsa) THAT YbulkazveFmtProg.lean LOADS. Nothing in Lean hashes anything: it is a label: what it is worth is what the hold of that sum in a sandbox is worth. -/
noncomputable def Ybaf.pinned : Pinned := { name := "ybulkazvefmt", sum := "206c89e373de981ffd4397b20bceee27cc5db0fa6541722fe402c3426acd10ce", checked := Ybaf.checked }
namespace Rows
def none {H : Type} : Left H := { results := [], args := [] }

/-- 'hailstone.LawS2552ASplit': WHATEVER THE INPUT: true; the input reads as it did. -/
def lawS2552ASplitSpec : ChangeSpec := { name := "lawS2552ASplit", fn := fun _ => fun
  | [d1, d2, d3, d4, d5, d6] => { results := [.lit (.bool true)], args := [d1, d2, d3, d4, d5, d6] }
  | _ => none }
def lawS2552ASplitRow : OpenClaim := { program := "ybulkazvefmt", sum := "206c89e373de981ffd4397b20bceee27cc5db0fa6541722fe402c3426acd10ce", func := "example.com/hailstone/hailstone.LawS2552ASplit", spec := "lawS2552ASplit", stops := ["fmt.errorf"], inPlace := ["fmt.errorf"], apart := false }
/-- NO THEOREM (fmt's text is open here; it may be false): for the released tool's asking of the row's closed facts alone. THE STATEMENT IS 'LawS2552ASplitToldSaid' (YbulkazveFmtCards.lean). -/
def LawS2552ASplitFormAsk : Prop := lawS2552ASplitRow.holds Ybaf.pinned (OpenSpec.ofChange lawS2552ASplitSpec)

/-- ITS FALSE NEIGHBOUR: 'it returns false'. Refute it at one input. -/
def lawS2552ASplitWrong : ChangeSpec := { name := "lawS2552ASplit", fn := fun _ => fun
  | [d1, d2, d3, d4, d5, d6] => { results := [.lit (.bool false)], args := [d1, d2, d3, d4, d5, d6] }
  | _ => none }
def LawS2552ASplitWrongFormAsk : Prop := lawS2552ASplitRow.holds Ybaf.pinned (OpenSpec.ofChange lawS2552ASplitWrong)

/-- 'hailstone.LawS2552ARoundTrip': WHATEVER THE INPUT: true; the input reads as it did. -/
def lawS2552ARoundTripSpec : ChangeSpec := { name := "lawS2552ARoundTrip", fn := fun _ => fun
  | [d1, d2, d3, d4, d5, d6, d7, d8] => { results := [.lit (.bool true)], args := [d1, d2, d3, d4, d5, d6, d7, d8] }
  | _ => none }
def lawS2552ARoundTripRow : OpenClaim := { program := "ybulkazvefmt", sum := "206c89e373de981ffd4397b20bceee27cc5db0fa6541722fe402c3426acd10ce", func := "example.com/hailstone/hailstone.LawS2552ARoundTrip", spec := "lawS2552ARoundTrip", stops := ["fmt.errorf"], inPlace := ["fmt.errorf"], apart := false }
/-- NO THEOREM (fmt's text is open here; it may be false): for the released tool's asking of the row's closed facts alone. THE STATEMENT IS 'LawS2552ARoundTripToldSaid' (YbulkazveFmtCards.lean). -/
def LawS2552ARoundTripFormAsk : Prop := lawS2552ARoundTripRow.holds Ybaf.pinned (OpenSpec.ofChange lawS2552ARoundTripSpec)

/-- ITS FALSE NEIGHBOUR: 'it returns false'. Refute it at one input. -/
def lawS2552ARoundTripWrong : ChangeSpec := { name := "lawS2552ARoundTrip", fn := fun _ => fun
  | [d1, d2, d3, d4, d5, d6, d7, d8] => { results := [.lit (.bool false)], args := [d1, d2, d3, d4, d5, d6, d7, d8] }
  | _ => none }
def LawS2552ARoundTripWrongFormAsk : Prop := lawS2552ARoundTripRow.holds Ybaf.pinned (OpenSpec.ofChange lawS2552ARoundTripWrong)

end Rows
end Go.Proofs.YbulkazveFmt
