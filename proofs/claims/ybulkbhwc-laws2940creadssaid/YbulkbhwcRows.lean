/-
  No cell of these rows narrows 'for every input' (looked for: loops, veiled, ifaces, maps, wideKeys, modest, calm, conditions, laid).
  DERIVED. THE GIVEN ROWS OF THIS SEAT. 1 by the template 'for every input the law returns true; each argument reads behind the call as it read before'; 0 by the template 'total and deterministic' (their statements: YbulkbhwcTotals.lean).
  GIVEN WITH THE SEED: the statements are not yours to turn. If you find one false, say at which input.
  Laid BY PROGRAM, IN A SANDBOX (cutbox-rows.mjs): the forced cells as the released guide's own fill.sh prints them over the translation 902a7181d2cd4fbb… (all of the seat's roots in one cut). By AI agents, Wed Nov 11 2026. No macro, syntax, notation, axiom, sorry.
-/
import Derived.Test.YbulkbhwcChecked
import GoSem.Claim
import GoSem.ClaimJoined
import GoSem.ClaimMapViews
import Derived.JoinedTies
import Derived.KernelRfl
namespace Go.Proofs.Ybulkbhwc
/- THE CELL 'sum', in the pinned program and in every row, IS THE sha256 OF THE DUMP (.gsa) THAT YbulkbhwcProg.lean LOADS. Nothing in Lean hashes anything: it is a label: what it is worth is what the hold of that sum in a sandbox is worth. -/
noncomputable def Yba.pinned : Pinned := { name := "ybulkbhwc", sum := "902a7181d2cd4fbb3e8b908017faca46b0fdeed79ce9cb767560e41242d74822", checked := Yba.checked }
namespace Rows
def none {H : Type} : Left H := { results := [], args := [] }

/-- 'omni-sign.LawS2940CReads': WHATEVER THE INPUT: true; the input reads as it did. -/
def lawS2940CReadsSpec : ChangeSpec := { name := "lawS2940CReads", fn := fun _ => fun
  | [d1, d2] => { results := [.lit (.bool true)], args := [d1, d2] }
  | _ => none }
def lawS2940CReadsRow : OpenClaim := { program := "ybulkbhwc", sum := "902a7181d2cd4fbb3e8b908017faca46b0fdeed79ce9cb767560e41242d74822", func := "example.com/omni-sign/omni-sign.LawS2940CReads", spec := "lawS2940CReads", apart := false }
def LawS2940CReadsSaid : Prop := lawS2940CReadsRow.holds Yba.pinned (OpenSpec.ofChange lawS2940CReadsSpec)

/-- ITS FALSE NEIGHBOUR: 'it returns false'. Refute it at one input. -/
def lawS2940CReadsWrong : ChangeSpec := { name := "lawS2940CReads", fn := fun _ => fun
  | [d1, d2] => { results := [.lit (.bool false)], args := [d1, d2] }
  | _ => none }
def LawS2940CReadsWrongFalsely : Prop := lawS2940CReadsRow.holds Yba.pinned (OpenSpec.ofChange lawS2940CReadsWrong)

end Rows
end Go.Proofs.Ybulkbhwc
