/-
  No cell of these rows narrows 'for every input' (looked for: loops, veiled, ifaces, maps, wideKeys, modest, calm, conditions, laid).
  DERIVED. THE GIVEN ROWS OF THIS SEAT. 2 by the template 'for every input the law returns true; each argument reads behind the call as it read before'; 0 by the template 'total and deterministic' (their statements: YbulkdgagTotals.lean).
  GIVEN WITH THE SEED: the statements are not yours to turn. If you find one false, say at which input.
  Laid BY PROGRAM, IN A SANDBOX (cutbox-rows.mjs): the forced cells as the released guide's own fill.sh prints them over the translation c0390517d1b4f5a4… (all of the seat's roots in one cut). By AI agents, Wed Nov 11 2026. No macro, syntax, notation, axiom, sorry.
-/
import Derived.Test.YbulkdgagChecked
import GoSem.Claim
import GoSem.ClaimJoined
import GoSem.ClaimMapViews
import Derived.JoinedTies
import Derived.KernelRfl
namespace Go.Proofs.Ybulkdgag
/- THE CELL 'sum', in the pinned program and in every row, IS THE sha256 OF THE DUMP (.gsa) THAT YbulkdgagProg.lean LOADS. Nothing in Lean hashes anything: it is a label: what it is worth is what the hold of that sum in a sandbox is worth. -/
noncomputable def Yba.pinned : Pinned := { name := "ybulkdgag", sum := "c0390517d1b4f5a4f2e1cafa159facc5dbcd582ab3d310814a56c897cffbe6f9", checked := Yba.checked }
namespace Rows
def none {H : Type} : Left H := { results := [], args := [] }

/-- 'pawl.LawS5362CForget': WHATEVER THE INPUT: true; the input reads as it did. -/
def lawS5362CForgetSpec : ChangeSpec := { name := "lawS5362CForget", fn := fun _ => fun
  | [d1, d2, d3, d4] => { results := [.lit (.bool true)], args := [d1, d2, d3, d4] }
  | _ => none }
def lawS5362CForgetRow : OpenClaim := { program := "ybulkdgag", sum := "c0390517d1b4f5a4f2e1cafa159facc5dbcd582ab3d310814a56c897cffbe6f9", func := "example.com/pawl/pawl.LawS5362CForget", spec := "lawS5362CForget", plainKeys := false, apart := false }
def LawS5362CForgetSaid : Prop := lawS5362CForgetRow.holds Yba.pinned (OpenSpec.ofChange lawS5362CForgetSpec)

/-- ITS FALSE NEIGHBOUR: 'it returns false'. Refute it at one input. -/
def lawS5362CForgetWrong : ChangeSpec := { name := "lawS5362CForget", fn := fun _ => fun
  | [d1, d2, d3, d4] => { results := [.lit (.bool false)], args := [d1, d2, d3, d4] }
  | _ => none }
def LawS5362CForgetWrongFalsely : Prop := lawS5362CForgetRow.holds Yba.pinned (OpenSpec.ofChange lawS5362CForgetWrong)

/-- 'pawl.LawS5362CEmpty': WHATEVER THE INPUT: true; the input reads as it did. -/
def lawS5362CEmptySpec : ChangeSpec := { name := "lawS5362CEmpty", fn := fun _ => fun
  | [d1, d2] => { results := [.lit (.bool true)], args := [d1, d2] }
  | _ => none }
def lawS5362CEmptyRow : OpenClaim := { program := "ybulkdgag", sum := "c0390517d1b4f5a4f2e1cafa159facc5dbcd582ab3d310814a56c897cffbe6f9", func := "example.com/pawl/pawl.LawS5362CEmpty", spec := "lawS5362CEmpty", plainKeys := false, apart := false }
def LawS5362CEmptySaid : Prop := lawS5362CEmptyRow.holds Yba.pinned (OpenSpec.ofChange lawS5362CEmptySpec)

/-- ITS FALSE NEIGHBOUR: 'it returns false'. Refute it at one input. -/
def lawS5362CEmptyWrong : ChangeSpec := { name := "lawS5362CEmpty", fn := fun _ => fun
  | [d1, d2] => { results := [.lit (.bool false)], args := [d1, d2] }
  | _ => none }
def LawS5362CEmptyWrongFalsely : Prop := lawS5362CEmptyRow.holds Yba.pinned (OpenSpec.ofChange lawS5362CEmptyWrong)

end Rows
end Go.Proofs.Ybulkdgag
