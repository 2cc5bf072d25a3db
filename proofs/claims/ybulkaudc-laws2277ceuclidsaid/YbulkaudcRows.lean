/-
  No cell of these rows narrows 'for every input' (looked for: loops, veiled, ifaces, maps, wideKeys, modest, calm, conditions, laid).
  DERIVED. THE GIVEN ROWS OF THIS SEAT. 2 by the template 'for every input the law returns true; each argument reads behind the call as it read before'; 0 by the template 'total and deterministic' (their statements: YbulkaudcTotals.lean).
  GIVEN WITH THE SEED: the statements are not yours to turn. If you find one false, say at which input.
  Laid BY PROGRAM, IN A SANDBOX (cutbox-rows.mjs): the forced cells as the released guide's own fill.sh prints them over the translation 7459cb1eace7117d… (all of the seat's roots in one cut). By AI agents, Wed Nov 11 2026. No macro, syntax, notation, axiom, sorry.
-/
import Derived.Test.YbulkaudcChecked
import GoSem.Claim
import GoSem.ClaimJoined
import GoSem.ClaimMapViews
import Derived.JoinedTies
import Derived.KernelRfl
namespace Go.Proofs.Ybulkaudc
/- THE CELL 'sum', in the pinned program and in every row, IS THE sha256 OF THE DUMP (.gsa) THAT YbulkaudcProg.lean LOADS. Nothing in Lean hashes anything: it is a label: what it is worth is what the hold of that sum in a sandbox is worth. -/
noncomputable def Yba.pinned : Pinned := { name := "ybulkaudc", sum := "7459cb1eace7117d154ff7ddc1319fb01870c85f69f7788ba83b7e429c47ed11", checked := Yba.checked }
namespace Rows
def none {H : Type} : Left H := { results := [], args := [] }

/-- 'timesill.LawS2277CEuclid': WHATEVER THE INPUT: true; the input reads as it did. -/
def lawS2277CEuclidSpec : ChangeSpec := { name := "lawS2277CEuclid", fn := fun _ => fun
  | [d1, d2] => { results := [.lit (.bool true)], args := [d1, d2] }
  | _ => none }
def lawS2277CEuclidRow : OpenClaim := { program := "ybulkaudc", sum := "7459cb1eace7117d154ff7ddc1319fb01870c85f69f7788ba83b7e429c47ed11", func := "example.com/timesill/timesill.LawS2277CEuclid", spec := "lawS2277CEuclid", apart := false }
def LawS2277CEuclidSaid : Prop := lawS2277CEuclidRow.holds Yba.pinned (OpenSpec.ofChange lawS2277CEuclidSpec)

/-- ITS FALSE NEIGHBOUR: 'it returns false'. Refute it at one input. -/
def lawS2277CEuclidWrong : ChangeSpec := { name := "lawS2277CEuclid", fn := fun _ => fun
  | [d1, d2] => { results := [.lit (.bool false)], args := [d1, d2] }
  | _ => none }
def LawS2277CEuclidWrongFalsely : Prop := lawS2277CEuclidRow.holds Yba.pinned (OpenSpec.ofChange lawS2277CEuclidWrong)

/-- 'timesill.LawS2277CDayModel': WHATEVER THE INPUT: true; the input reads as it did. -/
def lawS2277CDayModelSpec : ChangeSpec := { name := "lawS2277CDayModel", fn := fun _ => fun
  | [d] => { results := [.lit (.bool true)], args := [d] }
  | _ => none }
def lawS2277CDayModelRow : OpenClaim := { program := "ybulkaudc", sum := "7459cb1eace7117d154ff7ddc1319fb01870c85f69f7788ba83b7e429c47ed11", func := "example.com/timesill/timesill.LawS2277CDayModel", spec := "lawS2277CDayModel", apart := false }
def LawS2277CDayModelSaid : Prop := lawS2277CDayModelRow.holds Yba.pinned (OpenSpec.ofChange lawS2277CDayModelSpec)

/-- ITS FALSE NEIGHBOUR: 'it returns false'. Refute it at one input. -/
def lawS2277CDayModelWrong : ChangeSpec := { name := "lawS2277CDayModel", fn := fun _ => fun
  | [d] => { results := [.lit (.bool false)], args := [d] }
  | _ => none }
def LawS2277CDayModelWrongFalsely : Prop := lawS2277CDayModelRow.holds Yba.pinned (OpenSpec.ofChange lawS2277CDayModelWrong)

end Rows
end Go.Proofs.Ybulkaudc
