/-
  No cell of these rows narrows 'for every input' (looked for: loops, veiled, ifaces, maps, wideKeys, modest, calm, conditions, laid).
  DERIVED. THE GIVEN ROWS OF THIS SEAT. 3 by the template 'for every input the law returns true; each argument reads behind the call as it read before'; 0 by the template 'total and deterministic' (their statements: YbulkapgaTotals.lean).
  GIVEN WITH THE SEED: the statements are not yours to turn. If you find one false, say at which input.
  Laid BY PROGRAM, IN A SANDBOX (cutbox-rows.mjs): the forced cells as the released guide's own fill.sh prints them over the translation 7c1972188c5bb215… (all of the seat's roots in one cut). By AI agents, Wed Nov 11 2026. No macro, syntax, notation, axiom, sorry.
-/
import Derived.Test.YbulkapgaChecked
import GoSem.Claim
import GoSem.ClaimJoined
import GoSem.ClaimMapViews
import Derived.JoinedTies
import Derived.KernelRfl
namespace Go.Proofs.Ybulkapga
/- THE CELL 'sum', in the pinned program and in every row, IS THE sha256 OF THE DUMP (.gsa) THAT YbulkapgaProg.lean LOADS. Nothing in Lean hashes anything: it is a label: what it is worth is what the hold of that sum in a sandbox is worth. -/
noncomputable def Yba.pinned : Pinned := { name := "ybulkapga", sum := "7c1972188c5bb215bdfa0db4b99a0cb9bcbb7148e18eddf46bc2d6e11f3f94a3", checked := Yba.checked }
namespace Rows
def none {H : Type} : Left H := { results := [], args := [] }

/-- 'deltaic.LawS2041AGroupedBits': WHATEVER THE INPUT: true; the input reads as it did. -/
def lawS2041AGroupedBitsSpec : ChangeSpec := { name := "lawS2041AGroupedBits", fn := fun _ => fun
  | [d1, d2, d3] => { results := [.lit (.bool true)], args := [d1, d2, d3] }
  | _ => none }
def lawS2041AGroupedBitsRow : OpenClaim := { program := "ybulkapga", sum := "7c1972188c5bb215bdfa0db4b99a0cb9bcbb7148e18eddf46bc2d6e11f3f94a3", func := "example.com/deltaic/deltaic.LawS2041AGroupedBits", spec := "lawS2041AGroupedBits", plainKeys := false, apart := false }
def LawS2041AGroupedBitsSaid : Prop := lawS2041AGroupedBitsRow.holds Yba.pinned (OpenSpec.ofChange lawS2041AGroupedBitsSpec)

/-- ITS FALSE NEIGHBOUR: 'it returns false'. Refute it at one input. -/
def lawS2041AGroupedBitsWrong : ChangeSpec := { name := "lawS2041AGroupedBits", fn := fun _ => fun
  | [d1, d2, d3] => { results := [.lit (.bool false)], args := [d1, d2, d3] }
  | _ => none }
def LawS2041AGroupedBitsWrongFalsely : Prop := lawS2041AGroupedBitsRow.holds Yba.pinned (OpenSpec.ofChange lawS2041AGroupedBitsWrong)

/-- 'deltaic.LawS2041CExact': WHATEVER THE INPUT: true; the input reads as it did. -/
def lawS2041CExactSpec : ChangeSpec := { name := "lawS2041CExact", fn := fun _ => fun
  | [d1, d2, d3] => { results := [.lit (.bool true)], args := [d1, d2, d3] }
  | _ => none }
def lawS2041CExactRow : OpenClaim := { program := "ybulkapga", sum := "7c1972188c5bb215bdfa0db4b99a0cb9bcbb7148e18eddf46bc2d6e11f3f94a3", func := "example.com/deltaic/deltaic.LawS2041CExact", spec := "lawS2041CExact", plainKeys := false, apart := false }
def LawS2041CExactSaid : Prop := lawS2041CExactRow.holds Yba.pinned (OpenSpec.ofChange lawS2041CExactSpec)

/-- ITS FALSE NEIGHBOUR: 'it returns false'. Refute it at one input. -/
def lawS2041CExactWrong : ChangeSpec := { name := "lawS2041CExact", fn := fun _ => fun
  | [d1, d2, d3] => { results := [.lit (.bool false)], args := [d1, d2, d3] }
  | _ => none }
def LawS2041CExactWrongFalsely : Prop := lawS2041CExactRow.holds Yba.pinned (OpenSpec.ofChange lawS2041CExactWrong)

/-- 'deltaic.LawS2041CUpdate': WHATEVER THE INPUT: true; the input reads as it did. -/
def lawS2041CUpdateSpec : ChangeSpec := { name := "lawS2041CUpdate", fn := fun _ => fun
  | [d1, d2, d3, d4] => { results := [.lit (.bool true)], args := [d1, d2, d3, d4] }
  | _ => none }
def lawS2041CUpdateRow : OpenClaim := { program := "ybulkapga", sum := "7c1972188c5bb215bdfa0db4b99a0cb9bcbb7148e18eddf46bc2d6e11f3f94a3", func := "example.com/deltaic/deltaic.LawS2041CUpdate", spec := "lawS2041CUpdate", plainKeys := false, apart := false }
def LawS2041CUpdateSaid : Prop := lawS2041CUpdateRow.holds Yba.pinned (OpenSpec.ofChange lawS2041CUpdateSpec)

/-- ITS FALSE NEIGHBOUR: 'it returns false'. Refute it at one input. -/
def lawS2041CUpdateWrong : ChangeSpec := { name := "lawS2041CUpdate", fn := fun _ => fun
  | [d1, d2, d3, d4] => { results := [.lit (.bool false)], args := [d1, d2, d3, d4] }
  | _ => none }
def LawS2041CUpdateWrongFalsely : Prop := lawS2041CUpdateRow.holds Yba.pinned (OpenSpec.ofChange lawS2041CUpdateWrong)

end Rows
end Go.Proofs.Ybulkapga
