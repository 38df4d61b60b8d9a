/-
  No cell of these rows narrows 'for every input' (looked for: loops, veiled, ifaces, maps, wideKeys, modest, calm, conditions, laid).
  DERIVED. THE GIVEN ROWS OF THIS SEAT. 4 by the template 'for every input the law returns true; each argument reads behind the call as it read before'; 0 by the template 'total and deterministic' (their statements: YbulkrkuTotals.lean).
  GIVEN WITH THE SEED: the statements are not yours to turn. If you find one false, say at which input.
  Laid BY PROGRAM, IN A SANDBOX (cutbox-rows.mjs): the forced cells as the released guide's own fill.sh prints them over the translation 4de22d624e85dc2b… (all of the seat's roots in one cut). By AI agents, Wed Nov 11 2026. No macro, syntax, notation, axiom, sorry.
-/
import Derived.Test.YbulkrkuChecked
import GoSem.Claim
import GoSem.ClaimJoined
import GoSem.ClaimMapViews
import Derived.JoinedTies
import Derived.KernelRfl
namespace Go.Proofs.Ybulkrku
/- THE CELL 'sum', in the pinned program and in every row, IS THE sha256 OF THE DUMP (.gsa) THAT YbulkrkuProg.lean LOADS. Nothing in Lean hashes anything: it is a label: what it is worth is what the hold of that sum in a sandbox is worth. -/
noncomputable def Yba.pinned : Pinned := { name := "ybulkrku", sum := "4de22d624e85dc2b3c27f811745605c50c25849fb33d2cc852a02dd8097ac593", checked := Yba.checked }
namespace Rows
def none {H : Type} : Left H := { results := [], args := [] }

/-- 'peer.LawS0891BFirstMiss': WHATEVER THE INPUT: true; the input reads as it did. -/
def lawS0891BFirstMissSpec : ChangeSpec := { name := "lawS0891BFirstMiss", fn := fun _ => fun
  | [d1, d2] => { results := [.lit (.bool true)], args := [d1, d2] }
  | _ => none }
def lawS0891BFirstMissRow : OpenClaim := { program := "ybulkrku", sum := "4de22d624e85dc2b3c27f811745605c50c25849fb33d2cc852a02dd8097ac593", func := "example.com/peerwood/peerwood/peer.LawS0891BFirstMiss", spec := "lawS0891BFirstMiss", inPlace := ["math.Float64bits"], unfollowed := true, recurses := true, apart := false }
def LawS0891BFirstMissSaid : Prop := lawS0891BFirstMissRow.holds Yba.pinned (OpenSpec.ofChange lawS0891BFirstMissSpec)

/-- ITS FALSE NEIGHBOUR: 'it returns false'. Refute it at one input. -/
def lawS0891BFirstMissWrong : ChangeSpec := { name := "lawS0891BFirstMiss", fn := fun _ => fun
  | [d1, d2] => { results := [.lit (.bool false)], args := [d1, d2] }
  | _ => none }
def LawS0891BFirstMissWrongFalsely : Prop := lawS0891BFirstMissRow.holds Yba.pinned (OpenSpec.ofChange lawS0891BFirstMissWrong)

/-- 'peer.LawS0891BPrefix': WHATEVER THE INPUT: true; the input reads as it did. -/
def lawS0891BPrefixSpec : ChangeSpec := { name := "lawS0891BPrefix", fn := fun _ => fun
  | [d1, d2, d3] => { results := [.lit (.bool true)], args := [d1, d2, d3] }
  | _ => none }
def lawS0891BPrefixRow : OpenClaim := { program := "ybulkrku", sum := "4de22d624e85dc2b3c27f811745605c50c25849fb33d2cc852a02dd8097ac593", func := "example.com/peerwood/peerwood/peer.LawS0891BPrefix", spec := "lawS0891BPrefix", unfollowed := true, recurses := true, apart := false }
def LawS0891BPrefixSaid : Prop := lawS0891BPrefixRow.holds Yba.pinned (OpenSpec.ofChange lawS0891BPrefixSpec)

/-- ITS FALSE NEIGHBOUR: 'it returns false'. Refute it at one input. -/
def lawS0891BPrefixWrong : ChangeSpec := { name := "lawS0891BPrefix", fn := fun _ => fun
  | [d1, d2, d3] => { results := [.lit (.bool false)], args := [d1, d2, d3] }
  | _ => none }
def LawS0891BPrefixWrongFalsely : Prop := lawS0891BPrefixRow.holds Yba.pinned (OpenSpec.ofChange lawS0891BPrefixWrong)

/-- 'peer.LawS0891CFresh': WHATEVER THE INPUT: true; the input reads as it did. -/
def lawS0891CFreshSpec : ChangeSpec := { name := "lawS0891CFresh", fn := fun _ => fun
  | [d1, d2] => { results := [.lit (.bool true)], args := [d1, d2] }
  | _ => none }
def lawS0891CFreshRow : OpenClaim := { program := "ybulkrku", sum := "4de22d624e85dc2b3c27f811745605c50c25849fb33d2cc852a02dd8097ac593", func := "example.com/peerwood/peerwood/peer.LawS0891CFresh", spec := "lawS0891CFresh", apart := false }
def LawS0891CFreshSaid : Prop := lawS0891CFreshRow.holds Yba.pinned (OpenSpec.ofChange lawS0891CFreshSpec)

/-- ITS FALSE NEIGHBOUR: 'it returns false'. Refute it at one input. -/
def lawS0891CFreshWrong : ChangeSpec := { name := "lawS0891CFresh", fn := fun _ => fun
  | [d1, d2] => { results := [.lit (.bool false)], args := [d1, d2] }
  | _ => none }
def LawS0891CFreshWrongFalsely : Prop := lawS0891CFreshRow.holds Yba.pinned (OpenSpec.ofChange lawS0891CFreshWrong)

/-- 'peer.LawS0891CTwo': WHATEVER THE INPUT: true; the input reads as it did. -/
def lawS0891CTwoSpec : ChangeSpec := { name := "lawS0891CTwo", fn := fun _ => fun
  | [d1, d2, d3] => { results := [.lit (.bool true)], args := [d1, d2, d3] }
  | _ => none }
def lawS0891CTwoRow : OpenClaim := { program := "ybulkrku", sum := "4de22d624e85dc2b3c27f811745605c50c25849fb33d2cc852a02dd8097ac593", func := "example.com/peerwood/peerwood/peer.LawS0891CTwo", spec := "lawS0891CTwo", apart := false }
def LawS0891CTwoSaid : Prop := lawS0891CTwoRow.holds Yba.pinned (OpenSpec.ofChange lawS0891CTwoSpec)

/-- ITS FALSE NEIGHBOUR: 'it returns false'. Refute it at one input. -/
def lawS0891CTwoWrong : ChangeSpec := { name := "lawS0891CTwo", fn := fun _ => fun
  | [d1, d2, d3] => { results := [.lit (.bool false)], args := [d1, d2, d3] }
  | _ => none }
def LawS0891CTwoWrongFalsely : Prop := lawS0891CTwoRow.holds Yba.pinned (OpenSpec.ofChange lawS0891CTwoWrong)

end Rows
end Go.Proofs.Ybulkrku
