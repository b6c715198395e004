/-
  No cell of these rows narrows 'for every input' (looked for: loops, veiled, ifaces, maps, wideKeys, modest, calm, conditions, laid).
  DERIVED. THE GIVEN ROWS OF THIS SEAT. 2 by the template 'for every input the law returns true; each argument reads behind the call as it read before'; 0 by the template 'total and deterministic' (their statements: YbulkbihkTotals.lean).
  GIVEN WITH THE SEED: the statements are not yours to turn. If you find one false, say at which input.
  Laid BY PROGRAM, IN A SANDBOX (cutbox-rows.mjs): the forced cells as the released guide's own fill.sh prints them over the translation 4c428643b29ece37… (all of the seat's roots in one cut). By AI agents, Wed Nov 11 2026. No macro, syntax, notation, axiom, sorry.
-/
import Derived.Test.YbulkbihkChecked
import GoSem.Claim
import GoSem.ClaimJoined
import GoSem.ClaimMapViews
import Derived.JoinedTies
import Derived.KernelRfl
namespace Go.Proofs.Ybulkbihk
/- THE CELL 'sum', in the pinned program and in every row, IS THE sha256 OF THE DUMP (.gsa) THAT YbulkbihkProg.lean LOADS. Nothing in Lean hashes anything: it is a label: what it is worth is what the hold of that sum in a sandbox is worth. -/
noncomputable def Yba.pinned : Pinned := { name := "ybulkbihk", sum := "4c428643b29ece37f3067b7e4ac3d86abf18ddff9ca5a35a9eb8cc9d7eb12f52", checked := Yba.checked }
namespace Rows
def none {H : Type} : Left H := { results := [], args := [] }

/-- 'dike.LawS2961ABlocks': WHATEVER THE INPUT: true; the input reads as it did. -/
def lawS2961ABlocksSpec : ChangeSpec := { name := "lawS2961ABlocks", fn := fun _ => fun
  | [d1, d2, d3] => { results := [.lit (.bool true)], args := [d1, d2, d3] }
  | _ => none }
def lawS2961ABlocksRow : OpenClaim := { program := "ybulkbihk", sum := "4c428643b29ece37f3067b7e4ac3d86abf18ddff9ca5a35a9eb8cc9d7eb12f52", func := "example.com/dike/dike.LawS2961ABlocks", spec := "lawS2961ABlocks", inPlace := ["runtime.GOMAXPROCS"], unfollowed := true, recurses := true, apart := false }
def LawS2961ABlocksSaid : Prop := lawS2961ABlocksRow.holds Yba.pinned (OpenSpec.ofChange lawS2961ABlocksSpec)

/-- ITS FALSE NEIGHBOUR: 'it returns false'. Refute it at one input. -/
def lawS2961ABlocksWrong : ChangeSpec := { name := "lawS2961ABlocks", fn := fun _ => fun
  | [d1, d2, d3] => { results := [.lit (.bool false)], args := [d1, d2, d3] }
  | _ => none }
def LawS2961ABlocksWrongFalsely : Prop := lawS2961ABlocksRow.holds Yba.pinned (OpenSpec.ofChange lawS2961ABlocksWrong)

/-- 'dike.LawS2961AConcat': WHATEVER THE INPUT: true; the input reads as it did. -/
def lawS2961AConcatSpec : ChangeSpec := { name := "lawS2961AConcat", fn := fun _ => fun
  | [d1, d2] => { results := [.lit (.bool true)], args := [d1, d2] }
  | _ => none }
def lawS2961AConcatRow : OpenClaim := { program := "ybulkbihk", sum := "4c428643b29ece37f3067b7e4ac3d86abf18ddff9ca5a35a9eb8cc9d7eb12f52", func := "example.com/dike/dike.LawS2961AConcat", spec := "lawS2961AConcat", inPlace := ["runtime.GOMAXPROCS"], unfollowed := true, recurses := true, apart := false }
def LawS2961AConcatSaid : Prop := lawS2961AConcatRow.holds Yba.pinned (OpenSpec.ofChange lawS2961AConcatSpec)

/-- ITS FALSE NEIGHBOUR: 'it returns false'. Refute it at one input. -/
def lawS2961AConcatWrong : ChangeSpec := { name := "lawS2961AConcat", fn := fun _ => fun
  | [d1, d2] => { results := [.lit (.bool false)], args := [d1, d2] }
  | _ => none }
def LawS2961AConcatWrongFalsely : Prop := lawS2961AConcatRow.holds Yba.pinned (OpenSpec.ofChange lawS2961AConcatWrong)

end Rows
end Go.Proofs.Ybulkbihk
