/-
  No cell of these rows narrows 'for every input' (looked for: loops, veiled, ifaces, maps, wideKeys, modest, calm, conditions, laid).
  DERIVED. THE GIVEN ROWS OF THIS SEAT. 2 by the template 'for every input the law returns true; each argument reads behind the call as it read before'; 0 by the template 'total and deterministic' (their statements: YbulkaphqTotals.lean).
  GIVEN WITH THE SEED: the statements are not yours to turn. If you find one false, say at which input.
  Laid BY PROGRAM, IN A SANDBOX (cutbox-rows.mjs): the forced cells as the released guide's own fill.sh prints them over the translation eade83c9c67871b9… (all of the seat's roots in one cut). By AI agents, Wed Nov 11 2026. No macro, syntax, notation, axiom, sorry.
-/
import Derived.Test.YbulkaphqChecked
import GoSem.Claim
import GoSem.ClaimJoined
import GoSem.ClaimMapViews
import Derived.JoinedTies
import Derived.KernelRfl
namespace Go.Proofs.Ybulkaphq
/- THE CELL 'sum', in the pinned program and in every row, IS THE sha256 OF THE DUMP (.gsa) THAT YbulkaphqProg.lean LOADS. Nothing in Lean hashes anything: it is a label: what it is worth is what the hold of that sum in a sandbox is worth. -/
noncomputable def Yba.pinned : Pinned := { name := "ybulkaphq", sum := "eade83c9c67871b920d2fbd36a969f3dc3cb9f7b92aef1d541ec99fb9c623e9f", checked := Yba.checked }
namespace Rows
def none {H : Type} : Left H := { results := [], args := [] }

/-- 'verify.LawS2044BExact': WHATEVER THE INPUT: true; the input reads as it did. -/
def lawS2044BExactSpec : ChangeSpec := { name := "lawS2044BExact", fn := fun _ => fun
  | [d] => { results := [.lit (.bool true)], args := [d] }
  | _ => none }
def lawS2044BExactRow : OpenClaim := { program := "ybulkaphq", sum := "eade83c9c67871b920d2fbd36a969f3dc3cb9f7b92aef1d541ec99fb9c623e9f", func := "example.com/sealgate/sealgate/verify.LawS2044BExact", spec := "lawS2044BExact", apart := false }
def LawS2044BExactSaid : Prop := lawS2044BExactRow.holds Yba.pinned (OpenSpec.ofChange lawS2044BExactSpec)

/-- ITS FALSE NEIGHBOUR: 'it returns false'. Refute it at one input. -/
def lawS2044BExactWrong : ChangeSpec := { name := "lawS2044BExact", fn := fun _ => fun
  | [d] => { results := [.lit (.bool false)], args := [d] }
  | _ => none }
def LawS2044BExactWrongFalsely : Prop := lawS2044BExactRow.holds Yba.pinned (OpenSpec.ofChange lawS2044BExactWrong)

/-- 'verify.LawS2044BPrefix': WHATEVER THE INPUT: true; the input reads as it did. -/
def lawS2044BPrefixSpec : ChangeSpec := { name := "lawS2044BPrefix", fn := fun _ => fun
  | [d1, d2] => { results := [.lit (.bool true)], args := [d1, d2] }
  | _ => none }
def lawS2044BPrefixRow : OpenClaim := { program := "ybulkaphq", sum := "eade83c9c67871b920d2fbd36a969f3dc3cb9f7b92aef1d541ec99fb9c623e9f", func := "example.com/sealgate/sealgate/verify.LawS2044BPrefix", spec := "lawS2044BPrefix", apart := false }
def LawS2044BPrefixSaid : Prop := lawS2044BPrefixRow.holds Yba.pinned (OpenSpec.ofChange lawS2044BPrefixSpec)

/-- ITS FALSE NEIGHBOUR: 'it returns false'. Refute it at one input. -/
def lawS2044BPrefixWrong : ChangeSpec := { name := "lawS2044BPrefix", fn := fun _ => fun
  | [d1, d2] => { results := [.lit (.bool false)], args := [d1, d2] }
  | _ => none }
def LawS2044BPrefixWrongFalsely : Prop := lawS2044BPrefixRow.holds Yba.pinned (OpenSpec.ofChange lawS2044BPrefixWrong)

end Rows
end Go.Proofs.Ybulkaphq
