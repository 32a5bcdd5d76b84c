/-
  No cell of these rows narrows 'for every input' (looked for: loops, veiled, ifaces, maps, wideKeys, modest, calm, conditions, laid).
  DERIVED. THE GIVEN ROWS OF THIS SEAT. 2 by the template 'for every input the law returns true; each argument reads behind the call as it read before'; 0 by the template 'total and deterministic' (their statements: YbulkapdwTotals.lean).
  GIVEN WITH THE SEED: the statements are not yours to turn. If you find one false, say at which input.
  Laid BY PROGRAM, IN A SANDBOX (cutbox-rows.mjs): the forced cells as the released guide's own fill.sh prints them over the translation ec164a9b6f70369b… (all of the seat's roots in one cut). By AI agents, Wed Nov 11 2026. No macro, syntax, notation, axiom, sorry.
-/
import Derived.Test.YbulkapdwChecked
import GoSem.Claim
import GoSem.ClaimJoined
import GoSem.ClaimMapViews
import Derived.JoinedTies
import Derived.KernelRfl
namespace Go.Proofs.Ybulkapdw
/- THE CELL 'sum', in the pinned program and in every row, IS THE sha256 OF THE DUMP (.gsa) THAT YbulkapdwProg.lean LOADS. Nothing in Lean hashes anything: it is a label: what it is worth is what the hold of that sum in a sandbox is worth. -/
noncomputable def Yba.pinned : Pinned := { name := "ybulkapdw", sum := "ec164a9b6f70369b73527fcd9d666c906046ac6b26470f64b561bf99936bd0ee", checked := Yba.checked }
namespace Rows
def none {H : Type} : Left H := { results := [], args := [] }

/-- 'routing.LawS2037CCount': WHATEVER THE INPUT: true; the input reads as it did. -/
def lawS2037CCountSpec : ChangeSpec := { name := "lawS2037CCount", fn := fun _ => fun
  | [d1, d2] => { results := [.lit (.bool true)], args := [d1, d2] }
  | _ => none }
def lawS2037CCountRow : OpenClaim := { program := "ybulkapdw", sum := "ec164a9b6f70369b73527fcd9d666c906046ac6b26470f64b561bf99936bd0ee", func := "example.com/nearfold/nearfold/internal/routing.LawS2037CCount", spec := "lawS2037CCount", apart := false }
def LawS2037CCountSaid : Prop := lawS2037CCountRow.holds Yba.pinned (OpenSpec.ofChange lawS2037CCountSpec)

/-- ITS FALSE NEIGHBOUR: 'it returns false'. Refute it at one input. -/
def lawS2037CCountWrong : ChangeSpec := { name := "lawS2037CCount", fn := fun _ => fun
  | [d1, d2] => { results := [.lit (.bool false)], args := [d1, d2] }
  | _ => none }
def LawS2037CCountWrongFalsely : Prop := lawS2037CCountRow.holds Yba.pinned (OpenSpec.ofChange lawS2037CCountWrong)

/-- 'routing.LawS2037CSteps': WHATEVER THE INPUT: true; the input reads as it did. -/
def lawS2037CStepsSpec : ChangeSpec := { name := "lawS2037CSteps", fn := fun _ => fun
  | [d] => { results := [.lit (.bool true)], args := [d] }
  | _ => none }
def lawS2037CStepsRow : OpenClaim := { program := "ybulkapdw", sum := "ec164a9b6f70369b73527fcd9d666c906046ac6b26470f64b561bf99936bd0ee", func := "example.com/nearfold/nearfold/internal/routing.LawS2037CSteps", spec := "lawS2037CSteps", apart := false }
def LawS2037CStepsSaid : Prop := lawS2037CStepsRow.holds Yba.pinned (OpenSpec.ofChange lawS2037CStepsSpec)

/-- ITS FALSE NEIGHBOUR: 'it returns false'. Refute it at one input. -/
def lawS2037CStepsWrong : ChangeSpec := { name := "lawS2037CSteps", fn := fun _ => fun
  | [d] => { results := [.lit (.bool false)], args := [d] }
  | _ => none }
def LawS2037CStepsWrongFalsely : Prop := lawS2037CStepsRow.holds Yba.pinned (OpenSpec.ofChange lawS2037CStepsWrong)

end Rows
end Go.Proofs.Ybulkapdw
