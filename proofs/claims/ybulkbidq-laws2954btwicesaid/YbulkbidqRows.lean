/-
  No cell of these rows narrows 'for every input' (looked for: loops, veiled, ifaces, maps, wideKeys, modest, calm, conditions, laid).
  DERIVED. THE GIVEN ROWS OF THIS SEAT. 2 by the template 'for every input the law returns true; each argument reads behind the call as it read before'; 0 by the template 'total and deterministic' (their statements: YbulkbidqTotals.lean).
  GIVEN WITH THE SEED: the statements are not yours to turn. If you find one false, say at which input.
  Laid BY PROGRAM, IN A SANDBOX (cutbox-rows.mjs): the forced cells as the released guide's own fill.sh prints them over the translation 91a68b2ce327748b… (all of the seat's roots in one cut). By AI agents, Wed Nov 11 2026. No macro, syntax, notation, axiom, sorry.
-/
import Derived.Test.YbulkbidqChecked
import GoSem.Claim
import GoSem.ClaimJoined
import GoSem.ClaimMapViews
import Derived.JoinedTies
import Derived.KernelRfl
namespace Go.Proofs.Ybulkbidq
/- THE CELL 'sum', in the pinned program and in every row, IS THE sha256 OF THE DUMP (.gsa) THAT YbulkbidqProg.lean LOADS. Nothing in Lean hashes anything: it is a label: what it is worth is what the hold of that sum in a sandbox is worth. -/
noncomputable def Yba.pinned : Pinned := { name := "ybulkbidq", sum := "91a68b2ce327748b3b3fb75046b2b8ca8415e0b907c9a0dac8fbcc4cc30ddec7", checked := Yba.checked }
namespace Rows
def none {H : Type} : Left H := { results := [], args := [] }

/-- 'cache.LawS2954BEnd': WHATEVER THE INPUT: true; the input reads as it did. -/
def lawS2954BEndSpec : ChangeSpec := { name := "lawS2954BEnd", fn := fun _ => fun
  | [d1, d2, d3, d4, d5, d6] => { results := [.lit (.bool true)], args := [d1, d2, d3, d4, d5, d6] }
  | _ => none }
def lawS2954BEndRow : OpenClaim := { program := "ybulkbidq", sum := "91a68b2ce327748b3b3fb75046b2b8ca8415e0b907c9a0dac8fbcc4cc30ddec7", func := "example.com/freshet/freshet/cache.LawS2954BEnd", spec := "lawS2954BEnd", inPlace := ["sync/atomic.StoreInt64", "sync/atomic.AddInt64", "sync/atomic.LoadInt64"], apart := false }
def LawS2954BEndSaid : Prop := lawS2954BEndRow.holds Yba.pinned (OpenSpec.ofChange lawS2954BEndSpec)

/-- ITS FALSE NEIGHBOUR: 'it returns false'. Refute it at one input. -/
def lawS2954BEndWrong : ChangeSpec := { name := "lawS2954BEnd", fn := fun _ => fun
  | [d1, d2, d3, d4, d5, d6] => { results := [.lit (.bool false)], args := [d1, d2, d3, d4, d5, d6] }
  | _ => none }
def LawS2954BEndWrongFalsely : Prop := lawS2954BEndRow.holds Yba.pinned (OpenSpec.ofChange lawS2954BEndWrong)

/-- 'cache.LawS2954BTwice': WHATEVER THE INPUT: true; the input reads as it did. -/
def lawS2954BTwiceSpec : ChangeSpec := { name := "lawS2954BTwice", fn := fun _ => fun
  | [d1, d2, d3, d4, d5] => { results := [.lit (.bool true)], args := [d1, d2, d3, d4, d5] }
  | _ => none }
def lawS2954BTwiceRow : OpenClaim := { program := "ybulkbidq", sum := "91a68b2ce327748b3b3fb75046b2b8ca8415e0b907c9a0dac8fbcc4cc30ddec7", func := "example.com/freshet/freshet/cache.LawS2954BTwice", spec := "lawS2954BTwice", inPlace := ["sync/atomic.StoreInt64", "sync/atomic.AddInt64", "sync/atomic.LoadInt64"], apart := false }
def LawS2954BTwiceSaid : Prop := lawS2954BTwiceRow.holds Yba.pinned (OpenSpec.ofChange lawS2954BTwiceSpec)

/-- ITS FALSE NEIGHBOUR: 'it returns false'. Refute it at one input. -/
def lawS2954BTwiceWrong : ChangeSpec := { name := "lawS2954BTwice", fn := fun _ => fun
  | [d1, d2, d3, d4, d5] => { results := [.lit (.bool false)], args := [d1, d2, d3, d4, d5] }
  | _ => none }
def LawS2954BTwiceWrongFalsely : Prop := lawS2954BTwiceRow.holds Yba.pinned (OpenSpec.ofChange lawS2954BTwiceWrong)

end Rows
end Go.Proofs.Ybulkbidq
