/-
  No cell of these rows narrows 'for every input' (looked for: loops, veiled, ifaces, maps, wideKeys, modest, calm, conditions, laid).
  DERIVED. THE GIVEN ROWS OF THIS SEAT. 3 by the template 'for every input the law returns true; each argument reads behind the call as it read before'; 0 by the template 'total and deterministic' (their statements: YbulkazxiTotals.lean).
  GIVEN WITH THE SEED: the statements are not yours to turn. If you find one false, say at which input.
  Laid BY PROGRAM, IN A SANDBOX (cutbox-rows.mjs): the forced cells as the released guide's own fill.sh prints them over the translation 819f6549daf97f86… (all of the seat's roots in one cut). By AI agents, Wed Nov 11 2026. No macro, syntax, notation, axiom, sorry.
-/
import Derived.Test.YbulkazxiChecked
import GoSem.Claim
import GoSem.ClaimJoined
import GoSem.ClaimMapViews
import Derived.JoinedTies
import Derived.KernelRfl
namespace Go.Proofs.Ybulkazxi
/- THE CELL 'sum', in the pinned program and in every row, IS THE sha256 OF THE DUMP (.gsa) THAT YbulkazxiProg.lean LOADS. Nothing in Lean hashes anything: it is a label: what it is worth is what the hold of that sum in a sandbox is worth. -/
noncomputable def Yba.pinned : Pinned := { name := "ybulkazxi", sum := "819f6549daf97f8674f58c283a9fbadf57ce69b97239294ca54ed6be6d52334f", checked := Yba.checked }
namespace Rows
def none {H : Type} : Left H := { results := [], args := [] }

/-- 'versotree.LawS2556ANearestOrder': WHATEVER THE INPUT: true; the input reads as it did. -/
def lawS2556ANearestOrderSpec : ChangeSpec := { name := "lawS2556ANearestOrder", fn := fun _ => fun
  | [d1, d2, d3, d4] => { results := [.lit (.bool true)], args := [d1, d2, d3, d4] }
  | _ => none }
def lawS2556ANearestOrderRow : OpenClaim := { program := "ybulkazxi", sum := "819f6549daf97f8674f58c283a9fbadf57ce69b97239294ca54ed6be6d52334f", func := "example.com/versotree/versotree.LawS2556ANearestOrder", spec := "lawS2556ANearestOrder", inPlace := ["sync/atomic.StoreInt32", "sync/atomic.LoadUint64", "sync/atomic.LoadInt32", "sync/atomic.LoadPointer", "math.sqrt", "math.Float64bits", "math.Float64frombits"], unfollowed := true, recurses := true, apart := false }
def LawS2556ANearestOrderSaid : Prop := lawS2556ANearestOrderRow.holds Yba.pinned (OpenSpec.ofChange lawS2556ANearestOrderSpec)

/-- ITS FALSE NEIGHBOUR: 'it returns false'. Refute it at one input. -/
def lawS2556ANearestOrderWrong : ChangeSpec := { name := "lawS2556ANearestOrder", fn := fun _ => fun
  | [d1, d2, d3, d4] => { results := [.lit (.bool false)], args := [d1, d2, d3, d4] }
  | _ => none }
def LawS2556ANearestOrderWrongFalsely : Prop := lawS2556ANearestOrderRow.holds Yba.pinned (OpenSpec.ofChange lawS2556ANearestOrderWrong)

/-- 'versotree.LawS2556ARankedThenUnranked': WHATEVER THE INPUT: true; the input reads as it did. -/
def lawS2556ARankedThenUnrankedSpec : ChangeSpec := { name := "lawS2556ARankedThenUnranked", fn := fun _ => fun
  | [d] => { results := [.lit (.bool true)], args := [d] }
  | _ => none }
def lawS2556ARankedThenUnrankedRow : OpenClaim := { program := "ybulkazxi", sum := "819f6549daf97f8674f58c283a9fbadf57ce69b97239294ca54ed6be6d52334f", func := "example.com/versotree/versotree.LawS2556ARankedThenUnranked", spec := "lawS2556ARankedThenUnranked", inPlace := ["sync/atomic.StoreInt32", "math.Float64frombits", "sync/atomic.LoadUint64", "sync/atomic.LoadInt32", "sync/atomic.LoadPointer", "math.sqrt", "math.Float64bits"], unfollowed := true, recurses := true, apart := false }
def LawS2556ARankedThenUnrankedSaid : Prop := lawS2556ARankedThenUnrankedRow.holds Yba.pinned (OpenSpec.ofChange lawS2556ARankedThenUnrankedSpec)

/-- ITS FALSE NEIGHBOUR: 'it returns false'. Refute it at one input. -/
def lawS2556ARankedThenUnrankedWrong : ChangeSpec := { name := "lawS2556ARankedThenUnranked", fn := fun _ => fun
  | [d] => { results := [.lit (.bool false)], args := [d] }
  | _ => none }
def LawS2556ARankedThenUnrankedWrongFalsely : Prop := lawS2556ARankedThenUnrankedRow.holds Yba.pinned (OpenSpec.ofChange lawS2556ARankedThenUnrankedWrong)

/-- 'versotree.LawS2556BHold': WHATEVER THE INPUT: true; the input reads as it did. -/
def lawS2556BHoldSpec : ChangeSpec := { name := "lawS2556BHold", fn := fun _ => fun
  | [d1, d2, d3, d4, d5] => { results := [.lit (.bool true)], args := [d1, d2, d3, d4, d5] }
  | _ => none }
def lawS2556BHoldRow : OpenClaim := { program := "ybulkazxi", sum := "819f6549daf97f8674f58c283a9fbadf57ce69b97239294ca54ed6be6d52334f", func := "example.com/versotree/versotree.LawS2556BHold", spec := "lawS2556BHold", inPlace := ["sync/atomic.StorePointer", "(*internal/sync.Mutex).Lock", "internal/race.Disable", "sync/atomic.CompareAndSwapInt32", "internal/race.Enable", "internal/race.Acquire", "(*internal/sync.Mutex).lockSlow", "internal/sync.runtime_canSpin", "internal/sync.runtime_doSpin", "internal/sync.throw", "internal/sync.runtime_nanotime", "internal/sync.runtime_SemacquireMutex", "sync/atomic.AddInt32", "sync/atomic.LoadPointer", "(*internal/sync.Mutex).TryLock", "(*internal/sync.Mutex).Unlock", "internal/race.ReleaseMerge", "(*internal/sync.Mutex).unlockSlow", "internal/sync.fatal", "internal/sync.runtime_Semrelease"], apart := false }
def LawS2556BHoldSaid : Prop := lawS2556BHoldRow.holds Yba.pinned (OpenSpec.ofChange lawS2556BHoldSpec)

/-- ITS FALSE NEIGHBOUR: 'it returns false'. Refute it at one input. -/
def lawS2556BHoldWrong : ChangeSpec := { name := "lawS2556BHold", fn := fun _ => fun
  | [d1, d2, d3, d4, d5] => { results := [.lit (.bool false)], args := [d1, d2, d3, d4, d5] }
  | _ => none }
def LawS2556BHoldWrongFalsely : Prop := lawS2556BHoldRow.holds Yba.pinned (OpenSpec.ofChange lawS2556BHoldWrong)

end Rows
end Go.Proofs.Ybulkazxi
