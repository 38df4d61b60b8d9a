/-
  No cell of these rows narrows 'for every input' (looked for: loops, veiled, ifaces, maps, wideKeys, modest, calm, conditions, laid).
  DERIVED. THE GIVEN ROWS OF THIS SEAT. 2 by the template 'for every input the law returns true; each argument reads behind the call as it read before'; 0 by the template 'total and deterministic' (their statements: YbulkrnmTotals.lean).
  GIVEN WITH THE SEED: the statements are not yours to turn. If you find one false, say at which input.
  Laid BY PROGRAM, IN A SANDBOX (cutbox-rows.mjs): the forced cells as the released guide's own fill.sh prints them over the translation dea19cd7954541d0… (all of the seat's roots in one cut). By AI agents, Wed Nov 11 2026. No macro, syntax, notation, axiom, sorry.
-/
import Derived.Test.YbulkrnmChecked
import GoSem.Claim
import GoSem.ClaimJoined
import GoSem.ClaimMapViews
import Derived.JoinedTies
import Derived.KernelRfl
namespace Go.Proofs.Ybulkrnm
/- THE CELL 'sum', in the pinned program and in every row, IS THE sha256 OF THE DUMP (.gsa) THAT YbulkrnmProg.lean LOADS. Nothing in Lean hashes anything: it is a label: what it is worth is what the hold of that sum in a sandbox is worth. -/
noncomputable def Yba.pinned : Pinned := { name := "ybulkrnm", sum := "dea19cd7954541d0f807e87345d5ac38eb3171b4a4f384bea0e4eb8825d4856e", checked := Yba.checked }
namespace Rows
def none {H : Type} : Left H := { results := [], args := [] }

/-- 'verdandi.LawS0896BOneShot': WHATEVER THE INPUT: true; the input reads as it did. -/
def lawS0896BOneShotSpec : ChangeSpec := { name := "lawS0896BOneShot", fn := fun _ => fun
  | [d1, d2, d3, d4, d5, d6, d7] => { results := [.lit (.bool true)], args := [d1, d2, d3, d4, d5, d6, d7] }
  | _ => none }
def lawS0896BOneShotRow : OpenClaim := { program := "ybulkrnm", sum := "dea19cd7954541d0f807e87345d5ac38eb3171b4a4f384bea0e4eb8825d4856e", func := "example.com/verdandi/verdandi.LawS0896BOneShot", spec := "lawS0896BOneShot", unfollowed := true, recurses := true, apart := false }
def LawS0896BOneShotSaid : Prop := lawS0896BOneShotRow.holds Yba.pinned (OpenSpec.ofChange lawS0896BOneShotSpec)

/-- ITS FALSE NEIGHBOUR: 'it returns false'. Refute it at one input. -/
def lawS0896BOneShotWrong : ChangeSpec := { name := "lawS0896BOneShot", fn := fun _ => fun
  | [d1, d2, d3, d4, d5, d6, d7] => { results := [.lit (.bool false)], args := [d1, d2, d3, d4, d5, d6, d7] }
  | _ => none }
def LawS0896BOneShotWrongFalsely : Prop := lawS0896BOneShotRow.holds Yba.pinned (OpenSpec.ofChange lawS0896BOneShotWrong)

/-- 'verdandi.LawS0896BPeriodic': WHATEVER THE INPUT: true; the input reads as it did. -/
def lawS0896BPeriodicSpec : ChangeSpec := { name := "lawS0896BPeriodic", fn := fun _ => fun
  | [d1, d2, d3, d4, d5, d6, d7, d8] => { results := [.lit (.bool true)], args := [d1, d2, d3, d4, d5, d6, d7, d8] }
  | _ => none }
def lawS0896BPeriodicRow : OpenClaim := { program := "ybulkrnm", sum := "dea19cd7954541d0f807e87345d5ac38eb3171b4a4f384bea0e4eb8825d4856e", func := "example.com/verdandi/verdandi.LawS0896BPeriodic", spec := "lawS0896BPeriodic", unfollowed := true, recurses := true, apart := false }
def LawS0896BPeriodicSaid : Prop := lawS0896BPeriodicRow.holds Yba.pinned (OpenSpec.ofChange lawS0896BPeriodicSpec)

/-- ITS FALSE NEIGHBOUR: 'it returns false'. Refute it at one input. -/
def lawS0896BPeriodicWrong : ChangeSpec := { name := "lawS0896BPeriodic", fn := fun _ => fun
  | [d1, d2, d3, d4, d5, d6, d7, d8] => { results := [.lit (.bool false)], args := [d1, d2, d3, d4, d5, d6, d7, d8] }
  | _ => none }
def LawS0896BPeriodicWrongFalsely : Prop := lawS0896BPeriodicRow.holds Yba.pinned (OpenSpec.ofChange lawS0896BPeriodicWrong)

end Rows
end Go.Proofs.Ybulkrnm
