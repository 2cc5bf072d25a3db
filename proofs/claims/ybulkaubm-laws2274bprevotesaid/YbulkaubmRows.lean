/-
  No cell of these rows narrows 'for every input' (looked for: loops, veiled, ifaces, maps, wideKeys, modest, calm, conditions, laid).
  DERIVED. THE GIVEN ROWS OF THIS SEAT. 3 by the template 'for every input the law returns true; each argument reads behind the call as it read before'; 0 by the template 'total and deterministic' (their statements: YbulkaubmTotals.lean).
  GIVEN WITH THE SEED: the statements are not yours to turn. If you find one false, say at which input.
  Laid BY PROGRAM, IN A SANDBOX (cutbox-rows.mjs): the forced cells as the released guide's own fill.sh prints them over the translation c42c62b816ca46b5… (all of the seat's roots in one cut). By AI agents, Wed Nov 11 2026. No macro, syntax, notation, axiom, sorry.
-/
import Derived.Test.YbulkaubmChecked
import GoSem.Claim
import GoSem.ClaimJoined
import GoSem.ClaimMapViews
import Derived.JoinedTies
import Derived.KernelRfl
namespace Go.Proofs.Ybulkaubm
/- THE CELL 'sum', in the pinned program and in every row, IS THE sha256 OF THE DUMP (.gsa) THAT YbulkaubmProg.lean LOADS. Nothing in Lean hashes anything: it is a label: what it is worth is what the hold of that sum in a sandbox is worth. -/
noncomputable def Yba.pinned : Pinned := { name := "ybulkaubm", sum := "c42c62b816ca46b5a75c7e8d7d57fcea927b5959e03b6c066da0873b11761272", checked := Yba.checked }
namespace Rows
def none {H : Type} : Left H := { results := [], args := [] }

/-- 'election.LawS2274BEarly': WHATEVER THE INPUT: true; the input reads as it did. -/
def lawS2274BEarlySpec : ChangeSpec := { name := "lawS2274BEarly", fn := fun _ => fun
  | [d1, d2, d3, d4, d5, d6] => { results := [.lit (.bool true)], args := [d1, d2, d3, d4, d5, d6] }
  | _ => none }
def lawS2274BEarlyRow : OpenClaim := { program := "ybulkaubm", sum := "c42c62b816ca46b5a75c7e8d7d57fcea927b5959e03b6c066da0873b11761272", func := "example.com/regency/regency/internal/election.LawS2274BEarly", spec := "lawS2274BEarly", unfollowed := true, recurses := true, apart := false }
def LawS2274BEarlySaid : Prop := lawS2274BEarlyRow.holds Yba.pinned (OpenSpec.ofChange lawS2274BEarlySpec)

/-- ITS FALSE NEIGHBOUR: 'it returns false'. Refute it at one input. -/
def lawS2274BEarlyWrong : ChangeSpec := { name := "lawS2274BEarly", fn := fun _ => fun
  | [d1, d2, d3, d4, d5, d6] => { results := [.lit (.bool false)], args := [d1, d2, d3, d4, d5, d6] }
  | _ => none }
def LawS2274BEarlyWrongFalsely : Prop := lawS2274BEarlyRow.holds Yba.pinned (OpenSpec.ofChange lawS2274BEarlyWrong)

/-- 'election.LawS2274BPreVote': WHATEVER THE INPUT: true; the input reads as it did. -/
def lawS2274BPreVoteSpec : ChangeSpec := { name := "lawS2274BPreVote", fn := fun _ => fun
  | [d1, d2, d3, d4, d5, d6, d7] => { results := [.lit (.bool true)], args := [d1, d2, d3, d4, d5, d6, d7] }
  | _ => none }
def lawS2274BPreVoteRow : OpenClaim := { program := "ybulkaubm", sum := "c42c62b816ca46b5a75c7e8d7d57fcea927b5959e03b6c066da0873b11761272", func := "example.com/regency/regency/internal/election.LawS2274BPreVote", spec := "lawS2274BPreVote", unfollowed := true, recurses := true, apart := false }
def LawS2274BPreVoteSaid : Prop := lawS2274BPreVoteRow.holds Yba.pinned (OpenSpec.ofChange lawS2274BPreVoteSpec)

/-- ITS FALSE NEIGHBOUR: 'it returns false'. Refute it at one input. -/
def lawS2274BPreVoteWrong : ChangeSpec := { name := "lawS2274BPreVote", fn := fun _ => fun
  | [d1, d2, d3, d4, d5, d6, d7] => { results := [.lit (.bool false)], args := [d1, d2, d3, d4, d5, d6, d7] }
  | _ => none }
def LawS2274BPreVoteWrongFalsely : Prop := lawS2274BPreVoteRow.holds Yba.pinned (OpenSpec.ofChange lawS2274BPreVoteWrong)

/-- 'election.LawS2274BBeats': WHATEVER THE INPUT: true; the input reads as it did. -/
def lawS2274BBeatsSpec : ChangeSpec := { name := "lawS2274BBeats", fn := fun _ => fun
  | [d1, d2, d3, d4, d5, d6, d7] => { results := [.lit (.bool true)], args := [d1, d2, d3, d4, d5, d6, d7] }
  | _ => none }
def lawS2274BBeatsRow : OpenClaim := { program := "ybulkaubm", sum := "c42c62b816ca46b5a75c7e8d7d57fcea927b5959e03b6c066da0873b11761272", func := "example.com/regency/regency/internal/election.LawS2274BBeats", spec := "lawS2274BBeats", unfollowed := true, recurses := true, apart := false }
def LawS2274BBeatsSaid : Prop := lawS2274BBeatsRow.holds Yba.pinned (OpenSpec.ofChange lawS2274BBeatsSpec)

/-- ITS FALSE NEIGHBOUR: 'it returns false'. Refute it at one input. -/
def lawS2274BBeatsWrong : ChangeSpec := { name := "lawS2274BBeats", fn := fun _ => fun
  | [d1, d2, d3, d4, d5, d6, d7] => { results := [.lit (.bool false)], args := [d1, d2, d3, d4, d5, d6, d7] }
  | _ => none }
def LawS2274BBeatsWrongFalsely : Prop := lawS2274BBeatsRow.holds Yba.pinned (OpenSpec.ofChange lawS2274BBeatsWrong)

end Rows
end Go.Proofs.Ybulkaubm
