/-
  No cell of these rows narrows 'for every input' (looked for: loops, veiled, ifaces, maps, wideKeys, modest, calm, conditions, laid).
  DERIVED. THE GIVEN ROWS OF THIS SEAT. 2 by the template 'for every input the law returns true; each argument reads behind the call as it read before'; 0 by the template 'total and deterministic' (their statements: YbulkaztaFmtTotals.lean).
  GIVEN WITH THE SEED: the statements are not yours to turn. If you find one false, say at which input.
  Laid BY PROGRAM, IN A SANDBOX (cutbox-rows.mjs): the forced cells as the released guide's own fill.sh prints them over the translation 41750e43202eb2fb… (all of the seat's roots in one cut). By AI agents, Wed Nov 11 2026. No macro, syntax, notation, axiom, sorry.
-/
import Derived.Test.YbulkaztaFmtChecked
import GoSem.Claim
import GoSem.ClaimJoined
import GoSem.ClaimMapViews
import Derived.JoinedTies
import Derived.KernelRfl
namespace Go.Proofs.YbulkaztaFmt
/- THE CELL 'sum', in the pinned program and in every row, IS THE sha256 OF THE DUMP (.gsa) THAT YbulkaztaFmtProg.lean LOADS. Nothing in Lean hashes anything: it is a label: what it is worth is what the hold of that sum in a sandbox is worth. -/
noncomputable def Ybaf.pinned : Pinned := { name := "ybulkaztafmt", sum := "41750e43202eb2fbec73c005af204b08e7453c4cf02f458c069b0bfb7799180b", checked := Ybaf.checked }
namespace Rows
def none {H : Type} : Left H := { results := [], args := [] }

/-- 'idl.LawS2548ANoLine': WHATEVER THE INPUT: true; the input reads as it did. -/
def lawS2548ANoLineSpec : ChangeSpec := { name := "lawS2548ANoLine", fn := fun _ => fun
  | [d1, d2, d3] => { results := [.lit (.bool true)], args := [d1, d2, d3] }
  | _ => none }
def lawS2548ANoLineRow : OpenClaim := { program := "ybulkaztafmt", sum := "41750e43202eb2fbec73c005af204b08e7453c4cf02f458c069b0bfb7799180b", func := "example.com/interface-notation/interface-notation/internal/idl.LawS2548ANoLine", spec := "lawS2548ANoLine", stops := ["fmt.Sprintf"], inPlace := ["fmt.Sprintf"], apart := false }
/-- NO THEOREM (fmt's text is open here; it may be false): for the released tool's asking of the row's closed facts alone. THE STATEMENT IS 'LawS2548ANoLineToldSaid' (YbulkaztaFmtCards.lean). -/
def LawS2548ANoLineFormAsk : Prop := lawS2548ANoLineRow.holds Ybaf.pinned (OpenSpec.ofChange lawS2548ANoLineSpec)

/-- ITS FALSE NEIGHBOUR: 'it returns false'. Refute it at one input. -/
def lawS2548ANoLineWrong : ChangeSpec := { name := "lawS2548ANoLine", fn := fun _ => fun
  | [d1, d2, d3] => { results := [.lit (.bool false)], args := [d1, d2, d3] }
  | _ => none }
def LawS2548ANoLineWrongFormAsk : Prop := lawS2548ANoLineRow.holds Ybaf.pinned (OpenSpec.ofChange lawS2548ANoLineWrong)

/-- 'idl.LawS2548AErrorJoin': WHATEVER THE INPUT: true; the input reads as it did. -/
def lawS2548AErrorJoinSpec : ChangeSpec := { name := "lawS2548AErrorJoin", fn := fun _ => fun
  | [d1, d2, d3] => { results := [.lit (.bool true)], args := [d1, d2, d3] }
  | _ => none }
def lawS2548AErrorJoinRow : OpenClaim := { program := "ybulkaztafmt", sum := "41750e43202eb2fbec73c005af204b08e7453c4cf02f458c069b0bfb7799180b", func := "example.com/interface-notation/interface-notation/internal/idl.LawS2548AErrorJoin", spec := "lawS2548AErrorJoin", stops := ["fmt.Sprintf"], inPlace := ["fmt.Sprintf"], apart := false }
/-- NO THEOREM (fmt's text is open here; it may be false): for the released tool's asking of the row's closed facts alone. THE STATEMENT IS 'LawS2548AErrorJoinToldSaid' (YbulkaztaFmtCards.lean). -/
def LawS2548AErrorJoinFormAsk : Prop := lawS2548AErrorJoinRow.holds Ybaf.pinned (OpenSpec.ofChange lawS2548AErrorJoinSpec)

/-- ITS FALSE NEIGHBOUR: 'it returns false'. Refute it at one input. -/
def lawS2548AErrorJoinWrong : ChangeSpec := { name := "lawS2548AErrorJoin", fn := fun _ => fun
  | [d1, d2, d3] => { results := [.lit (.bool false)], args := [d1, d2, d3] }
  | _ => none }
def LawS2548AErrorJoinWrongFormAsk : Prop := lawS2548AErrorJoinRow.holds Ybaf.pinned (OpenSpec.ofChange lawS2548AErrorJoinWrong)

end Rows
end Go.Proofs.YbulkaztaFmt
