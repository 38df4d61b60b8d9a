/-
  No cell of these rows narrows 'for every input' (looked for: loops, veiled, ifaces, maps, wideKeys, modest, calm, conditions, laid).
  DERIVED. THE GIVEN ROWS OF THIS SEAT. 2 by the template 'for every input the law returns true; each argument reads behind the call as it read before'; 0 by the template 'total and deterministic' (their statements: YbulkrqeTotals.lean).
  GIVEN WITH THE SEED: the statements are not yours to turn. If you find one false, say at which input.
  Laid BY PROGRAM, IN A SANDBOX (cutbox-rows.mjs): the forced cells as the released guide's own fill.sh prints them over the translation 478e58c09a3ab679… (all of the seat's roots in one cut). By AI agents, Wed Nov 11 2026. No macro, syntax, notation, axiom, sorry.
-/
import Derived.Test.YbulkrqeChecked
import GoSem.Claim
import GoSem.ClaimJoined
import GoSem.ClaimMapViews
import Derived.JoinedTies
import Derived.KernelRfl
namespace Go.Proofs.Ybulkrqe
/- THE CELL 'sum', in the pinned program and in every row, IS THE sha256 OF THE DUMP (.gsa) THAT YbulkrqeProg.lean LOADS. Nothing in Lean hashes anything: it is a label: what it is worth is what the hold of that sum in a sandbox is worth. -/
noncomputable def Yba.pinned : Pinned := { name := "ybulkrqe", sum := "478e58c09a3ab67989465b38a25b25c959d84375615ffba33f8b9697d889d600", checked := Yba.checked }
namespace Rows
def none {H : Type} : Left H := { results := [], args := [] }

/-- 'testjson.LawS0901AModel': WHATEVER THE INPUT: true; the input reads as it did. -/
def lawS0901AModelSpec : ChangeSpec := { name := "lawS0901AModel", fn := fun _ => fun
  | [d1, d2, d3] => { results := [.lit (.bool true)], args := [d1, d2, d3] }
  | _ => none }
def lawS0901AModelRow : OpenClaim := { program := "ybulkrqe", sum := "478e58c09a3ab67989465b38a25b25c959d84375615ffba33f8b9697d889d600", func := "example.com/casetable/casetable/internal/testjson.LawS0901AModel", spec := "lawS0901AModel", apart := false }
def LawS0901AModelSaid : Prop := lawS0901AModelRow.holds Yba.pinned (OpenSpec.ofChange lawS0901AModelSpec)

/-- ITS FALSE NEIGHBOUR: 'it returns false'. Refute it at one input. -/
def lawS0901AModelWrong : ChangeSpec := { name := "lawS0901AModel", fn := fun _ => fun
  | [d1, d2, d3] => { results := [.lit (.bool false)], args := [d1, d2, d3] }
  | _ => none }
def LawS0901AModelWrongFalsely : Prop := lawS0901AModelRow.holds Yba.pinned (OpenSpec.ofChange lawS0901AModelWrong)

/-- 'testjson.LawS0901AMatch': WHATEVER THE INPUT: true; the input reads as it did. -/
def lawS0901AMatchSpec : ChangeSpec := { name := "lawS0901AMatch", fn := fun _ => fun
  | [d1, d2, d3, d4] => { results := [.lit (.bool true)], args := [d1, d2, d3, d4] }
  | _ => none }
def lawS0901AMatchRow : OpenClaim := { program := "ybulkrqe", sum := "478e58c09a3ab67989465b38a25b25c959d84375615ffba33f8b9697d889d600", func := "example.com/casetable/casetable/internal/testjson.LawS0901AMatch", spec := "lawS0901AMatch", apart := false }
def LawS0901AMatchSaid : Prop := lawS0901AMatchRow.holds Yba.pinned (OpenSpec.ofChange lawS0901AMatchSpec)

/-- ITS FALSE NEIGHBOUR: 'it returns false'. Refute it at one input. -/
def lawS0901AMatchWrong : ChangeSpec := { name := "lawS0901AMatch", fn := fun _ => fun
  | [d1, d2, d3, d4] => { results := [.lit (.bool false)], args := [d1, d2, d3, d4] }
  | _ => none }
def LawS0901AMatchWrongFalsely : Prop := lawS0901AMatchRow.holds Yba.pinned (OpenSpec.ofChange lawS0901AMatchWrong)

end Rows
end Go.Proofs.Ybulkrqe
