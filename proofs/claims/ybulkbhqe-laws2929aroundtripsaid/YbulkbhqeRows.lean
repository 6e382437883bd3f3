/-
  No cell of these rows narrows 'for every input' (looked for: loops, veiled, ifaces, maps, wideKeys, modest, calm, conditions, laid).
  DERIVED. THE GIVEN ROWS OF THIS SEAT. 2 by the template 'for every input the law returns true; each argument reads behind the call as it read before'; 0 by the template 'total and deterministic' (their statements: YbulkbhqeTotals.lean).
  GIVEN WITH THE SEED: the statements are not yours to turn. If you find one false, say at which input.
  Laid BY PROGRAM, IN A SANDBOX (cutbox-rows.mjs): the forced cells as the released guide's own fill.sh prints them over the translation 060f493ed816817d… (all of the seat's roots in one cut). By AI agents, Wed Nov 11 2026. No macro, syntax, notation, axiom, sorry.
-/
import Derived.Test.YbulkbhqeChecked
import GoSem.Claim
import GoSem.ClaimJoined
import GoSem.ClaimMapViews
import Derived.JoinedTies
import Derived.KernelRfl
namespace Go.Proofs.Ybulkbhqe
/- THE CELL 'sum', in the pinned program and in every row, IS THE sha256 OF THE DUMP (.gsa) THAT YbulkbhqeProg.lean LOADS. Nothing in Lean hashes anything: it is a label: what it is worth is what the hold of that sum in a sandbox is worth. -/
noncomputable def Yba.pinned : Pinned := { name := "ybulkbhqe", sum := "060f493ed816817d57eecc06c62f2fb2e8eb744c514eec421ebffb89e4061211", checked := Yba.checked }
namespace Rows
def none {H : Type} : Left H := { results := [], args := [] }

/-- 'device.LawS2929AExact': WHATEVER THE INPUT: true; the input reads as it did. -/
def lawS2929AExactSpec : ChangeSpec := { name := "lawS2929AExact", fn := fun _ => fun
  | [d1, d2, d3, d4, d5, d6, d7] => { results := [.lit (.bool true)], args := [d1, d2, d3, d4, d5, d6, d7] }
  | _ => none }
def lawS2929AExactRow : OpenClaim := { program := "ybulkbhqe", sum := "060f493ed816817d57eecc06c62f2fb2e8eb744c514eec421ebffb89e4061211", func := "example.com/spoolwire/spoolwire/device.LawS2929AExact", spec := "lawS2929AExact", named := ["encoding/binary.BigEndian"], apart := false }
def LawS2929AExactSaid : Prop := lawS2929AExactRow.holds Yba.pinned (OpenSpec.ofChange lawS2929AExactSpec)

/-- ITS FALSE NEIGHBOUR: 'it returns false'. Refute it at one input. -/
def lawS2929AExactWrong : ChangeSpec := { name := "lawS2929AExact", fn := fun _ => fun
  | [d1, d2, d3, d4, d5, d6, d7] => { results := [.lit (.bool false)], args := [d1, d2, d3, d4, d5, d6, d7] }
  | _ => none }
def LawS2929AExactWrongFalsely : Prop := lawS2929AExactRow.holds Yba.pinned (OpenSpec.ofChange lawS2929AExactWrong)

/-- 'device.LawS2929ARoundTrip': WHATEVER THE INPUT: true; the input reads as it did. -/
def lawS2929ARoundTripSpec : ChangeSpec := { name := "lawS2929ARoundTrip", fn := fun _ => fun
  | [d1, d2, d3, d4, d5, d6, d7, d8] => { results := [.lit (.bool true)], args := [d1, d2, d3, d4, d5, d6, d7, d8] }
  | _ => none }
def lawS2929ARoundTripRow : OpenClaim := { program := "ybulkbhqe", sum := "060f493ed816817d57eecc06c62f2fb2e8eb744c514eec421ebffb89e4061211", func := "example.com/spoolwire/spoolwire/device.LawS2929ARoundTrip", spec := "lawS2929ARoundTrip", named := ["encoding/binary.BigEndian"], apart := false }
def LawS2929ARoundTripSaid : Prop := lawS2929ARoundTripRow.holds Yba.pinned (OpenSpec.ofChange lawS2929ARoundTripSpec)

/-- ITS FALSE NEIGHBOUR: 'it returns false'. Refute it at one input. -/
def lawS2929ARoundTripWrong : ChangeSpec := { name := "lawS2929ARoundTrip", fn := fun _ => fun
  | [d1, d2, d3, d4, d5, d6, d7, d8] => { results := [.lit (.bool false)], args := [d1, d2, d3, d4, d5, d6, d7, d8] }
  | _ => none }
def LawS2929ARoundTripWrongFalsely : Prop := lawS2929ARoundTripRow.holds Yba.pinned (OpenSpec.ofChange lawS2929ARoundTripWrong)

end Rows
end Go.Proofs.Ybulkbhqe
