/-
  DERIVED. GIVEN WITH THE SEED: THE CARDS: each row of YbulkaztaFmtRows.lean that lists a variable, with what it lists TIED to the program's text (the seventh form; the later family's looks); each row that meets fmt, with fmt's text TOLD by the authors' own Lean function (tested against real Go, not proved from fmt's source: count such statements apart). THE CARD IS WHAT COUNTS. Prove the row's statement (the work); the ties are given (YbulkaztaFmtTie.lean); close each card by the builder's one call (the guide's Derived/Test/ToyasCard.lean, 'card_holds'). Laid BY PROGRAM, IN A SANDBOX (cutbox-door.mjs). By AI agents, Wed Nov 11 2026. No macro, syntax, notation, axiom, sorry.
-/
import Derived.Test.YbulkaztaFmtRows
import GoSem.ClaimSeven
namespace Go.Proofs.YbulkaztaFmt
namespace Rows

/-- THE TOLD CARD OF 'idl.LawS2548ANoLine'. -/
def lawS2548ANoLineCard : Claim7 := { stood := { row := lawS2548ANoLineRow, standIns := [], harness := (true, "ec6f32d27504f0bdd7afcee4b713c03e34fd6b5ab630859484cd2817588e3d95"), looks := false }, told := true, goes := false }
def LawS2548ANoLineToldSaid : Prop := Claim7.holds Ybaf.pinned (.plain (OpenSpec.ofChange lawS2548ANoLineSpec)) lawS2548ANoLineCard
/-- ITS FALSE NEIGHBOUR. Refute it at one input. -/
def LawS2548ANoLineToldWrongFalsely : Prop := Claim7.holds Ybaf.pinned (.plain (OpenSpec.ofChange lawS2548ANoLineWrong)) lawS2548ANoLineCard

/-- THE TOLD CARD OF 'idl.LawS2548AErrorJoin'. -/
def lawS2548AErrorJoinCard : Claim7 := { stood := { row := lawS2548AErrorJoinRow, standIns := [], harness := (true, "ec6f32d27504f0bdd7afcee4b713c03e34fd6b5ab630859484cd2817588e3d95"), looks := false }, told := true, goes := false }
def LawS2548AErrorJoinToldSaid : Prop := Claim7.holds Ybaf.pinned (.plain (OpenSpec.ofChange lawS2548AErrorJoinSpec)) lawS2548AErrorJoinCard
/-- ITS FALSE NEIGHBOUR. Refute it at one input. -/
def LawS2548AErrorJoinToldWrongFalsely : Prop := Claim7.holds Ybaf.pinned (.plain (OpenSpec.ofChange lawS2548AErrorJoinWrong)) lawS2548AErrorJoinCard
end Rows
end Go.Proofs.YbulkaztaFmt
