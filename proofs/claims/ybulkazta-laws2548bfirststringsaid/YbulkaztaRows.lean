/-
  No cell of these rows narrows 'for every input' (looked for: loops, veiled, ifaces, maps, wideKeys, modest, calm, conditions, laid).
  DERIVED. THE GIVEN ROWS OF THIS SEAT. 2 by the template 'for every input the law returns true; each argument reads behind the call as it read before'; 0 by the template 'total and deterministic' (their statements: YbulkaztaTotals.lean).
  GIVEN WITH THE SEED: the statements are not yours to turn. If you find one false, say at which input.
  Laid BY PROGRAM, IN A SANDBOX (cutbox-rows.mjs): the forced cells as the released guide's own fill.sh prints them over the translation dbf6a5d9a90c99db… (all of the seat's roots in one cut). By AI agents, Wed Nov 11 2026. No macro, syntax, notation, axiom, sorry.
-/
import Derived.Test.YbulkaztaChecked
import GoSem.Claim
import GoSem.ClaimJoined
import GoSem.ClaimMapViews
import Derived.JoinedTies
import Derived.KernelRfl
namespace Go.Proofs.Ybulkazta
/- THE CELL 'sum', in the pinned program and in every row, IS THE sha256 OF THE DUMP (.gsa) THAT YbulkaztaProg.lean LOADS. Nothing in Lean hashes anything: it is a label: what it is worth is what the hold of that sum in a sandbox is worth. -/
noncomputable def Yba.pinned : Pinned := { name := "ybulkazta", sum := "dbf6a5d9a90c99dbd96a4d7658f9ea1b06f75b769450c7ee07b3ad7cb0765270", checked := Yba.checked }
namespace Rows
def none {H : Type} : Left H := { results := [], args := [] }

/-- 'project.LawS2548BFirstString': WHATEVER THE INPUT: true; the input reads as it did. -/
def lawS2548BFirstStringSpec : ChangeSpec := { name := "lawS2548BFirstString", fn := fun _ => fun
  | [d1, d2] => { results := [.lit (.bool true)], args := [d1, d2] }
  | _ => none }
def lawS2548BFirstStringRow : OpenClaim := { program := "ybulkazta", sum := "dbf6a5d9a90c99dbd96a4d7658f9ea1b06f75b769450c7ee07b3ad7cb0765270", func := "example.com/interface-notation/interface-notation/internal/project.LawS2548BFirstString", spec := "lawS2548BFirstString", apart := false }
def LawS2548BFirstStringSaid : Prop := lawS2548BFirstStringRow.holds Yba.pinned (OpenSpec.ofChange lawS2548BFirstStringSpec)

/-- ITS FALSE NEIGHBOUR: 'it returns false'. Refute it at one input. -/
def lawS2548BFirstStringWrong : ChangeSpec := { name := "lawS2548BFirstString", fn := fun _ => fun
  | [d1, d2] => { results := [.lit (.bool false)], args := [d1, d2] }
  | _ => none }
def LawS2548BFirstStringWrongFalsely : Prop := lawS2548BFirstStringRow.holds Yba.pinned (OpenSpec.ofChange lawS2548BFirstStringWrong)

/-- 'project.LawS2548BAnnotationText': WHATEVER THE INPUT: true; the input reads as it did. -/
def lawS2548BAnnotationTextSpec : ChangeSpec := { name := "lawS2548BAnnotationText", fn := fun _ => fun
  | [d1, d2] => { results := [.lit (.bool true)], args := [d1, d2] }
  | _ => none }
def lawS2548BAnnotationTextRow : OpenClaim := { program := "ybulkazta", sum := "dbf6a5d9a90c99dbd96a4d7658f9ea1b06f75b769450c7ee07b3ad7cb0765270", func := "example.com/interface-notation/interface-notation/internal/project.LawS2548BAnnotationText", spec := "lawS2548BAnnotationText", apart := false }
def LawS2548BAnnotationTextSaid : Prop := lawS2548BAnnotationTextRow.holds Yba.pinned (OpenSpec.ofChange lawS2548BAnnotationTextSpec)

/-- ITS FALSE NEIGHBOUR: 'it returns false'. Refute it at one input. -/
def lawS2548BAnnotationTextWrong : ChangeSpec := { name := "lawS2548BAnnotationText", fn := fun _ => fun
  | [d1, d2] => { results := [.lit (.bool false)], args := [d1, d2] }
  | _ => none }
def LawS2548BAnnotationTextWrongFalsely : Prop := lawS2548BAnnotationTextRow.holds Yba.pinned (OpenSpec.ofChange lawS2548BAnnotationTextWrong)

end Rows
end Go.Proofs.Ybulkazta
