/-
  No cell of these rows narrows 'for every input' (looked for: loops, veiled, ifaces, maps, wideKeys, modest, calm, conditions, laid).
  DERIVED. THE GIVEN ROWS OF THIS SEAT. 3 by the template 'for every input the law returns true; each argument reads behind the call as it read before'; 0 by the template 'total and deterministic' (their statements: YbulkbhooTotals.lean).
  GIVEN WITH THE SEED: the statements are not yours to turn. If you find one false, say at which input.
  Laid BY PROGRAM, IN A SANDBOX (cutbox-rows.mjs): the forced cells as the released guide's own fill.sh prints them over the translation 893ac0be0ffe614e… (all of the seat's roots in one cut). By AI agents, Wed Nov 11 2026. No macro, syntax, notation, axiom, sorry.
-/
import Derived.Test.YbulkbhooChecked
import GoSem.Claim
import GoSem.ClaimJoined
import GoSem.ClaimMapViews
import Derived.JoinedTies
import Derived.KernelRfl
namespace Go.Proofs.Ybulkbhoo
/- THE CELL 'sum', in the pinned program and in every row, IS THE sha256 OF THE DUMP (.gsa) THAT YbulkbhooProg.lean LOADS. Nothing in Lean hashes anything: it is a label: what it is worth is what the hold of that sum in a sandbox is worth. -/
noncomputable def Yba.pinned : Pinned := { name := "ybulkbhoo", sum := "893ac0be0ffe614e4643b424451b26a66610224beb0b9da3c896b74ebcb3e6ec", checked := Yba.checked }
namespace Rows
def none {H : Type} : Left H := { results := [], args := [] }

/-- 'kinds.LawS2926BModel': WHATEVER THE INPUT: true; the input reads as it did. -/
def lawS2926BModelSpec : ChangeSpec := { name := "lawS2926BModel", fn := fun _ => fun
  | [d] => { results := [.lit (.bool true)], args := [d] }
  | _ => none }
def lawS2926BModelRow : OpenClaim := { program := "ybulkbhoo", sum := "893ac0be0ffe614e4643b424451b26a66610224beb0b9da3c896b74ebcb3e6ec", func := "example.com/idlens/idlens/internal/kinds.LawS2926BModel", spec := "lawS2926BModel", apart := false }
def LawS2926BModelSaid : Prop := lawS2926BModelRow.holds Yba.pinned (OpenSpec.ofChange lawS2926BModelSpec)

/-- ITS FALSE NEIGHBOUR: 'it returns false'. Refute it at one input. -/
def lawS2926BModelWrong : ChangeSpec := { name := "lawS2926BModel", fn := fun _ => fun
  | [d] => { results := [.lit (.bool false)], args := [d] }
  | _ => none }
def LawS2926BModelWrongFalsely : Prop := lawS2926BModelRow.holds Yba.pinned (OpenSpec.ofChange lawS2926BModelWrong)

/-- 'kinds.LawS2926BScaled': WHATEVER THE INPUT: true; the input reads as it did. -/
def lawS2926BScaledSpec : ChangeSpec := { name := "lawS2926BScaled", fn := fun _ => fun
  | [d1, d2, d3, d4] => { results := [.lit (.bool true)], args := [d1, d2, d3, d4] }
  | _ => none }
def lawS2926BScaledRow : OpenClaim := { program := "ybulkbhoo", sum := "893ac0be0ffe614e4643b424451b26a66610224beb0b9da3c896b74ebcb3e6ec", func := "example.com/idlens/idlens/internal/kinds.LawS2926BScaled", spec := "lawS2926BScaled", apart := false }
def LawS2926BScaledSaid : Prop := lawS2926BScaledRow.holds Yba.pinned (OpenSpec.ofChange lawS2926BScaledSpec)

/-- ITS FALSE NEIGHBOUR: 'it returns false'. Refute it at one input. -/
def lawS2926BScaledWrong : ChangeSpec := { name := "lawS2926BScaled", fn := fun _ => fun
  | [d1, d2, d3, d4] => { results := [.lit (.bool false)], args := [d1, d2, d3, d4] }
  | _ => none }
def LawS2926BScaledWrongFalsely : Prop := lawS2926BScaledRow.holds Yba.pinned (OpenSpec.ofChange lawS2926BScaledWrong)

/-- 'record.LawS2926CSpill': WHATEVER THE INPUT: true; the input reads as it did. -/
def lawS2926CSpillSpec : ChangeSpec := { name := "lawS2926CSpill", fn := fun _ => fun
  | [d1, d2, d3, d4, d5] => { results := [.lit (.bool true)], args := [d1, d2, d3, d4, d5] }
  | _ => none }
def lawS2926CSpillRow : OpenClaim := { program := "ybulkbhoo", sum := "893ac0be0ffe614e4643b424451b26a66610224beb0b9da3c896b74ebcb3e6ec", func := "example.com/idlens/idlens/internal/record.LawS2926CSpill", spec := "lawS2926CSpill", unfollowed := true, recurses := true, apart := false }
def LawS2926CSpillSaid : Prop := lawS2926CSpillRow.holds Yba.pinned (OpenSpec.ofChange lawS2926CSpillSpec)

/-- ITS FALSE NEIGHBOUR: 'it returns false'. Refute it at one input. -/
def lawS2926CSpillWrong : ChangeSpec := { name := "lawS2926CSpill", fn := fun _ => fun
  | [d1, d2, d3, d4, d5] => { results := [.lit (.bool false)], args := [d1, d2, d3, d4, d5] }
  | _ => none }
def LawS2926CSpillWrongFalsely : Prop := lawS2926CSpillRow.holds Yba.pinned (OpenSpec.ofChange lawS2926CSpillWrong)

end Rows
end Go.Proofs.Ybulkbhoo
