/-
  No cell of these rows narrows 'for every input' (looked for: loops, veiled, ifaces, maps, wideKeys, modest, calm, conditions, laid).
  DERIVED. THE GIVEN ROWS OF THIS SEAT. 2 by the template 'for every input the law returns true; each argument reads behind the call as it read before'; 0 by the template 'total and deterministic' (their statements: YbulkbhpqTotals.lean).
  GIVEN WITH THE SEED: the statements are not yours to turn. If you find one false, say at which input.
  Laid BY PROGRAM, IN A SANDBOX (cutbox-rows.mjs): the forced cells as the released guide's own fill.sh prints them over the translation 5c9027e1ca6821b8… (all of the seat's roots in one cut). By AI agents, Wed Nov 11 2026. No macro, syntax, notation, axiom, sorry.
-/
import Derived.Test.YbulkbhpqChecked
import GoSem.Claim
import GoSem.ClaimJoined
import GoSem.ClaimMapViews
import Derived.JoinedTies
import Derived.KernelRfl
namespace Go.Proofs.Ybulkbhpq
/- THE CELL 'sum', in the pinned program and in every row, IS THE sha256 OF THE DUMP (.gsa) THAT YbulkbhpqProg.lean LOADS. Nothing in Lean hashes anything: it is a label: what it is worth is what the hold of that sum in a sandbox is worth. -/
noncomputable def Yba.pinned : Pinned := { name := "ybulkbhpq", sum := "5c9027e1ca6821b87fba85c1b8116352ea190904d58be79829ec41adabb2dd43", checked := Yba.checked }
namespace Rows
def none {H : Type} : Left H := { results := [], args := [] }

/-- 'serialis.LawS2928BModel': WHATEVER THE INPUT: true; the input reads as it did. -/
def lawS2928BModelSpec : ChangeSpec := { name := "lawS2928BModel", fn := fun _ => fun
  | [d] => { results := [.lit (.bool true)], args := [d] }
  | _ => none }
def lawS2928BModelRow : OpenClaim := { program := "ybulkbhpq", sum := "5c9027e1ca6821b87fba85c1b8116352ea190904d58be79829ec41adabb2dd43", func := "example.com/serialis/serialis.LawS2928BModel", spec := "lawS2928BModel", apart := false }
def LawS2928BModelSaid : Prop := lawS2928BModelRow.holds Yba.pinned (OpenSpec.ofChange lawS2928BModelSpec)

/-- ITS FALSE NEIGHBOUR: 'it returns false'. Refute it at one input. -/
def lawS2928BModelWrong : ChangeSpec := { name := "lawS2928BModel", fn := fun _ => fun
  | [d] => { results := [.lit (.bool false)], args := [d] }
  | _ => none }
def LawS2928BModelWrongFalsely : Prop := lawS2928BModelRow.holds Yba.pinned (OpenSpec.ofChange lawS2928BModelWrong)

/-- 'serialis.LawS2928CRuns': WHATEVER THE INPUT: true; the input reads as it did. -/
def lawS2928CRunsSpec : ChangeSpec := { name := "lawS2928CRuns", fn := fun _ => fun
  | [d] => { results := [.lit (.bool true)], args := [d] }
  | _ => none }
def lawS2928CRunsRow : OpenClaim := { program := "ybulkbhpq", sum := "5c9027e1ca6821b87fba85c1b8116352ea190904d58be79829ec41adabb2dd43", func := "example.com/serialis/serialis.LawS2928CRuns", spec := "lawS2928CRuns", unfollowed := true, recurses := true, apart := false }
def LawS2928CRunsSaid : Prop := lawS2928CRunsRow.holds Yba.pinned (OpenSpec.ofChange lawS2928CRunsSpec)

/-- ITS FALSE NEIGHBOUR: 'it returns false'. Refute it at one input. -/
def lawS2928CRunsWrong : ChangeSpec := { name := "lawS2928CRuns", fn := fun _ => fun
  | [d] => { results := [.lit (.bool false)], args := [d] }
  | _ => none }
def LawS2928CRunsWrongFalsely : Prop := lawS2928CRunsRow.holds Yba.pinned (OpenSpec.ofChange lawS2928CRunsWrong)

end Rows
end Go.Proofs.Ybulkbhpq
