/-
  NARROWER THAN 'FOR EVERY INPUT', by the rows' own cells (each row's printed sentence says how): LawS2928AExact: laid.
  DERIVED. THE GIVEN ROWS OF THIS SEAT. 1 by the template 'for every input the law returns true; each argument reads behind the call as it read before'; 0 by the template 'total and deterministic' (their statements: YbulkbhpqDoorTotals.lean).
  GIVEN WITH THE SEED: the statements are not yours to turn. If you find one false, say at which input.
  Laid BY PROGRAM, IN A SANDBOX (cutbox-rows.mjs): the forced cells as the released guide's own fill.sh prints them over the translation be88cfa86a02d803… (all of the seat's roots in one cut). By AI agents, Wed Nov 11 2026. No macro, syntax, notation, axiom, sorry.
-/
import Derived.Test.YbulkbhpqDoorChecked
import GoSem.Claim
import GoSem.ClaimJoined
import GoSem.ClaimMapViews
import Derived.JoinedTies
import Derived.KernelRfl
namespace Go.Proofs.YbulkbhpqDoor
/- THE CELL 'sum', in the pinned program and in every row, IS THE sha256 OF THE DUMP (.gsa) THAT YbulkbhpqDoorProg.lean LOADS. Nothing in Lean hashes anything: it is a label: what it is worth is what the hold of that sum in a sandbox is worth. -/
noncomputable def Ybad.pinned : Pinned := { name := "ybulkbhpqdoor", sum := "be88cfa86a02d803abf796c65e6701fe0f88f7ebe01390e07309a20eab6ed808", checked := Ybad.checked }
namespace Rows
def none {H : Type} : Left H := { results := [], args := [] }

/- WHAT THE LISTED PACKAGE-LEVEL VARIABLES READ AS WHEN THE CALL BEGINS. Each datum BY PROGRAM (the guide's laid-datum.mjs) off the statement by which the dump's own 'gosem.cut.vars' lays the variable. In a bare row this is a premise. The card (YbulkbhpqDoorCards.lean) ties it to the program's text. -/
def laid_example_com_serialis_serialis_freeStanding {H : Type} : DataW H := .agg [.lit (.int .i64 (-1)), .lit (.bool false)]

/-- 'serialis.LawS2928AExact': WHATEVER THE INPUT: true; the input reads as it did. -/
def lawS2928AExactSpec : ChangeSpec := { name := "lawS2928AExact", vars := ["example.com/serialis/serialis.freeStanding"], fn := fun _ => fun
  | [d1, d2, d3, d4, d5, g1] => { results := [.lit (.bool true)], args := [d1, d2, d3, d4, d5], vars := [g1] }
  | _ => none }
def lawS2928AExactRow : OpenClaim := { program := "ybulkbhpqdoor", sum := "be88cfa86a02d803abf796c65e6701fe0f88f7ebe01390e07309a20eab6ed808", func := "example.com/serialis/serialis.LawS2928AExact", spec := "lawS2928AExact", unfollowed := true, recurses := true, named := ["example.com/serialis/serialis.freeStanding"], plainKeys := false, apart := false, laid := [("example.com/serialis/serialis.freeStanding", laid_example_com_serialis_serialis_freeStanding)] }
def LawS2928AExactSaid : Prop := lawS2928AExactRow.holds Ybad.pinned (OpenSpec.ofChange lawS2928AExactSpec)

/-- ITS FALSE NEIGHBOUR: 'it returns false'. Refute it at one input. -/
def lawS2928AExactWrong : ChangeSpec := { name := "lawS2928AExact", vars := ["example.com/serialis/serialis.freeStanding"], fn := fun _ => fun
  | [d1, d2, d3, d4, d5, g1] => { results := [.lit (.bool false)], args := [d1, d2, d3, d4, d5], vars := [g1] }
  | _ => none }
def LawS2928AExactWrongFalsely : Prop := lawS2928AExactRow.holds Ybad.pinned (OpenSpec.ofChange lawS2928AExactWrong)

end Rows
end Go.Proofs.YbulkbhpqDoor
