/-
  No cell of these rows narrows 'for every input' (looked for: loops, veiled, ifaces, maps, wideKeys, modest, calm, conditions, laid).
  DERIVED. THE GIVEN ROWS OF THIS SEAT. 1 by the template 'for every input the law returns true; each argument reads behind the call as it read before'; 0 by the template 'total and deterministic' (their statements: YbulkauakTotals.lean).
  GIVEN WITH THE SEED: the statements are not yours to turn. If you find one false, say at which input.
  Laid BY PROGRAM, IN A SANDBOX (cutbox-rows.mjs): the forced cells as the released guide's own fill.sh prints them over the translation 83c30caf7d10a790… (all of the seat's roots in one cut). By AI agents, Wed Nov 11 2026. No macro, syntax, notation, axiom, sorry.
-/
import Derived.Test.YbulkauakChecked
import GoSem.Claim
import GoSem.ClaimJoined
import GoSem.ClaimMapViews
import Derived.JoinedTies
import Derived.KernelRfl
namespace Go.Proofs.Ybulkauak
/- THE CELL 'sum', in the pinned program and in every row, IS THE sha256 OF THE DUMP (.gsa) THAT YbulkauakProg.lean LOADS. Nothing in Lean hashes anything: it is a label: what it is worth is what the hold of that sum in a sandbox is worth. -/
noncomputable def Yba.pinned : Pinned := { name := "ybulkauak", sum := "83c30caf7d10a790ec868d7a3d9e57abb50dbbd2c3a3a6c1116cbfaf75a3febe", checked := Yba.checked }
namespace Rows
def none {H : Type} : Left H := { results := [], args := [] }

/-- 'fiddlehead.LawS2272BRepeats': WHATEVER THE INPUT: true; the input reads as it did. -/
def lawS2272BRepeatsSpec : ChangeSpec := { name := "lawS2272BRepeats", fn := fun _ => fun
  | [d1, d2, d3, d4, d5, d6, d7, d8, d9] => { results := [.lit (.bool true)], args := [d1, d2, d3, d4, d5, d6, d7, d8, d9] }
  | _ => none }
def lawS2272BRepeatsRow : OpenClaim := { program := "ybulkauak", sum := "83c30caf7d10a790ec868d7a3d9e57abb50dbbd2c3a3a6c1116cbfaf75a3febe", func := "example.com/fiddlehead/fiddlehead.LawS2272BRepeats", spec := "lawS2272BRepeats", unfollowed := true, recurses := true, plainKeys := false, apart := false }
def LawS2272BRepeatsSaid : Prop := lawS2272BRepeatsRow.holds Yba.pinned (OpenSpec.ofChange lawS2272BRepeatsSpec)

/-- ITS FALSE NEIGHBOUR: 'it returns false'. Refute it at one input. -/
def lawS2272BRepeatsWrong : ChangeSpec := { name := "lawS2272BRepeats", fn := fun _ => fun
  | [d1, d2, d3, d4, d5, d6, d7, d8, d9] => { results := [.lit (.bool false)], args := [d1, d2, d3, d4, d5, d6, d7, d8, d9] }
  | _ => none }
def LawS2272BRepeatsWrongFalsely : Prop := lawS2272BRepeatsRow.holds Yba.pinned (OpenSpec.ofChange lawS2272BRepeatsWrong)

end Rows
end Go.Proofs.Ybulkauak
