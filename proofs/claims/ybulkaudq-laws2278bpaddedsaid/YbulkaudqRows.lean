/-
  No cell of these rows narrows 'for every input' (looked for: loops, veiled, ifaces, maps, wideKeys, modest, calm, conditions, laid).
  DERIVED. THE GIVEN ROWS OF THIS SEAT. 2 by the template 'for every input the law returns true; each argument reads behind the call as it read before'; 0 by the template 'total and deterministic' (their statements: YbulkaudqTotals.lean).
  GIVEN WITH THE SEED: the statements are not yours to turn. If you find one false, say at which input.
  Laid BY PROGRAM, IN A SANDBOX (cutbox-rows.mjs): the forced cells as the released guide's own fill.sh prints them over the translation c3079f197b4ed2de… (all of the seat's roots in one cut). By AI agents, Wed Nov 11 2026. No macro, syntax, notation, axiom, sorry.
-/
import Derived.Test.YbulkaudqChecked
import GoSem.Claim
import GoSem.ClaimJoined
import GoSem.ClaimMapViews
import Derived.JoinedTies
import Derived.KernelRfl
namespace Go.Proofs.Ybulkaudq
/- THE CELL 'sum', in the pinned program and in every row, IS THE sha256 OF THE DUMP (.gsa) THAT YbulkaudqProg.lean LOADS. Nothing in Lean hashes anything: it is a label: what it is worth is what the hold of that sum in a sandbox is worth. -/
noncomputable def Yba.pinned : Pinned := { name := "ybulkaudq", sum := "c3079f197b4ed2de750ed5e10d5052d1f62709d3d3451acc6e285c33611238be", checked := Yba.checked }
namespace Rows
def none {H : Type} : Left H := { results := [], args := [] }

/-- 'mt350.LawS2278BExact': WHATEVER THE INPUT: true; the input reads as it did. -/
def lawS2278BExactSpec : ChangeSpec := { name := "lawS2278BExact", fn := fun _ => fun
  | [d] => { results := [.lit (.bool true)], args := [d] }
  | _ => none }
def lawS2278BExactRow : OpenClaim := { program := "ybulkaudq", sum := "c3079f197b4ed2de750ed5e10d5052d1f62709d3d3451acc6e285c33611238be", func := "example.com/tallyhouse/tallyhouse/mt350.LawS2278BExact", spec := "lawS2278BExact", apart := false }
def LawS2278BExactSaid : Prop := lawS2278BExactRow.holds Yba.pinned (OpenSpec.ofChange lawS2278BExactSpec)

/-- ITS FALSE NEIGHBOUR: 'it returns false'. Refute it at one input. -/
def lawS2278BExactWrong : ChangeSpec := { name := "lawS2278BExact", fn := fun _ => fun
  | [d] => { results := [.lit (.bool false)], args := [d] }
  | _ => none }
def LawS2278BExactWrongFalsely : Prop := lawS2278BExactRow.holds Yba.pinned (OpenSpec.ofChange lawS2278BExactWrong)

/-- 'mt350.LawS2278BPadded': WHATEVER THE INPUT: true; the input reads as it did. -/
def lawS2278BPaddedSpec : ChangeSpec := { name := "lawS2278BPadded", fn := fun _ => fun
  | [d1, d2] => { results := [.lit (.bool true)], args := [d1, d2] }
  | _ => none }
def lawS2278BPaddedRow : OpenClaim := { program := "ybulkaudq", sum := "c3079f197b4ed2de750ed5e10d5052d1f62709d3d3451acc6e285c33611238be", func := "example.com/tallyhouse/tallyhouse/mt350.LawS2278BPadded", spec := "lawS2278BPadded", apart := false }
def LawS2278BPaddedSaid : Prop := lawS2278BPaddedRow.holds Yba.pinned (OpenSpec.ofChange lawS2278BPaddedSpec)

/-- ITS FALSE NEIGHBOUR: 'it returns false'. Refute it at one input. -/
def lawS2278BPaddedWrong : ChangeSpec := { name := "lawS2278BPadded", fn := fun _ => fun
  | [d1, d2] => { results := [.lit (.bool false)], args := [d1, d2] }
  | _ => none }
def LawS2278BPaddedWrongFalsely : Prop := lawS2278BPaddedRow.holds Yba.pinned (OpenSpec.ofChange lawS2278BPaddedWrong)

end Rows
end Go.Proofs.Ybulkaudq
