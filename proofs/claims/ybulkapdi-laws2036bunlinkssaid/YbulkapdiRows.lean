/-
  No cell of these rows narrows 'for every input' (looked for: loops, veiled, ifaces, maps, wideKeys, modest, calm, conditions, laid).
  DERIVED. THE GIVEN ROWS OF THIS SEAT. 2 by the template 'for every input the law returns true; each argument reads behind the call as it read before'; 0 by the template 'total and deterministic' (their statements: YbulkapdiTotals.lean).
  GIVEN WITH THE SEED: the statements are not yours to turn. If you find one false, say at which input.
  Laid BY PROGRAM, IN A SANDBOX (cutbox-rows.mjs): the forced cells as the released guide's own fill.sh prints them over the translation adec82ae869429e5… (all of the seat's roots in one cut). By AI agents, Wed Nov 11 2026. No macro, syntax, notation, axiom, sorry.
-/
import Derived.Test.YbulkapdiChecked
import GoSem.Claim
import GoSem.ClaimJoined
import GoSem.ClaimMapViews
import Derived.JoinedTies
import Derived.KernelRfl
namespace Go.Proofs.Ybulkapdi
/- THE CELL 'sum', in the pinned program and in every row, IS THE sha256 OF THE DUMP (.gsa) THAT YbulkapdiProg.lean LOADS. Nothing in Lean hashes anything: it is a label: what it is worth is what the hold of that sum in a sandbox is worth. -/
noncomputable def Yba.pinned : Pinned := { name := "ybulkapdi", sum := "adec82ae869429e56b1dff8f5870d48a5b3007eb3d99b09cdaa1d4c78a6cb15e", checked := Yba.checked }
namespace Rows
def none {H : Type} : Left H := { results := [], args := [] }

/-- 'schedule.LawS2036AGreedyTopo': WHATEVER THE INPUT: true; the input reads as it did. -/
def lawS2036AGreedyTopoSpec : ChangeSpec := { name := "lawS2036AGreedyTopo", fn := fun _ => fun
  | [d1, d2] => { results := [.lit (.bool true)], args := [d1, d2] }
  | _ => none }
def lawS2036AGreedyTopoRow : OpenClaim := { program := "ybulkapdi", sum := "adec82ae869429e56b1dff8f5870d48a5b3007eb3d99b09cdaa1d4c78a6cb15e", func := "example.com/lamina/lamina/internal/schedule.LawS2036AGreedyTopo", spec := "lawS2036AGreedyTopo", recurses := true, apart := false }
def LawS2036AGreedyTopoSaid : Prop := lawS2036AGreedyTopoRow.holds Yba.pinned (OpenSpec.ofChange lawS2036AGreedyTopoSpec)

/-- ITS FALSE NEIGHBOUR: 'it returns false'. Refute it at one input. -/
def lawS2036AGreedyTopoWrong : ChangeSpec := { name := "lawS2036AGreedyTopo", fn := fun _ => fun
  | [d1, d2] => { results := [.lit (.bool false)], args := [d1, d2] }
  | _ => none }
def LawS2036AGreedyTopoWrongFalsely : Prop := lawS2036AGreedyTopoRow.holds Yba.pinned (OpenSpec.ofChange lawS2036AGreedyTopoWrong)

/-- 'lamina.LawS2036BUnlinks': WHATEVER THE INPUT: true; the input reads as it did. -/
def lawS2036BUnlinksSpec : ChangeSpec := { name := "lawS2036BUnlinks", fn := fun _ => fun
  | [d1, d2, d3, d4, d5] => { results := [.lit (.bool true)], args := [d1, d2, d3, d4, d5] }
  | _ => none }
def lawS2036BUnlinksRow : OpenClaim := { program := "ybulkapdi", sum := "adec82ae869429e56b1dff8f5870d48a5b3007eb3d99b09cdaa1d4c78a6cb15e", func := "example.com/lamina/lamina.LawS2036BUnlinks", spec := "lawS2036BUnlinks", inPlace := ["sync/atomic.LoadPointer", "sync/atomic.StorePointer", "sync/atomic.AddInt64"], unfollowed := true, recurses := true, apart := false }
def LawS2036BUnlinksSaid : Prop := lawS2036BUnlinksRow.holds Yba.pinned (OpenSpec.ofChange lawS2036BUnlinksSpec)

/-- ITS FALSE NEIGHBOUR: 'it returns false'. Refute it at one input. -/
def lawS2036BUnlinksWrong : ChangeSpec := { name := "lawS2036BUnlinks", fn := fun _ => fun
  | [d1, d2, d3, d4, d5] => { results := [.lit (.bool false)], args := [d1, d2, d3, d4, d5] }
  | _ => none }
def LawS2036BUnlinksWrongFalsely : Prop := lawS2036BUnlinksRow.holds Yba.pinned (OpenSpec.ofChange lawS2036BUnlinksWrong)

end Rows
end Go.Proofs.Ybulkapdi
