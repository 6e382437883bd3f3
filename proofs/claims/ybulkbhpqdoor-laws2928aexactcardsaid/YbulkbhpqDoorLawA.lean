/- LawS2928AExact (3): what the input's memory holds; the boxes; small laws on rows. -/
import Derived.Test.YbulkbhpqDoorAft
namespace Go.Proofs.YbulkbhpqDoor
open Go.RowKit Plain
set_option linter.unusedVariables false

theorem alloc_drewN (w : World) (q : Nat) (o : Obj) : (w.drewN q).alloc o = (w.alloc o).drewN q := rfl
theorem setCell_drewN (w : World) (q : Nat) (a : Addr) (v : Value) : (w.drewN q).setCell a v = (w.setCell a v).drewN q := rfl
theorem below_drewN {B : Nat} {w w' : World} (h : Below B w w') (q : Nat) : Below B w (w'.drewN q) := ⟨h.os, h.tape, h.output, h.size, h.block⟩
theorem rowIs_below {w w' : World} {b : Nat} {t : TypeId} {n : Nat} {f : Nat → Value} (h : w.rowIs b t n f) (hb : Below w.heap.size w w') : w'.rowIs b t n f := h.of_block (hb.block b h.lt)
theorem row_fill {w : World} {b : Nat} {t : TypeId} {n k : Nat} {f : Nat → Value} {z v : Value} (h : w.rowIs b t n (fun j => if j < k then f j else z)) (hv : v = f k) : (w.setCell ⟨b, k, none⟩ v).rowIs b t n (fun j => if j < k + 1 then f j else z) :=
  (h.set k v).congr (fun j _ => by
    by_cases e : j = k
    · subst e; simp [hv]
    · by_cases e2 : j < k
      · simp [e, e2, Nat.lt_succ_of_lt e2]
      · have : ¬ j < k + 1 := by omega
        simp [e, e2, this])

/-- what the walk is told of the input's memory -/
structure CIn (aw : Option Addr) (nw wbk wo : Nat) (ww : Nat → Nat) (ar : Option Addr) (nr rb ro : Nat) (wrt : Nat → Bool) (rat : Nat → Nat) (ia : Nat → Option Addr) (ni ic qb qo : Nat → Nat) (z : Nat → Nat → Nat)
    (ta : Nat → Option Addr) (tn tb to : Nat → Nat) (tz : Nat → Nat → Nat) (sa : Nat → Int) (w : World) : Prop where
  wp : 0 < nw → aw = some ⟨wbk, wo, none⟩
  wc : ∀ j, j < nw → w.cell? ⟨wbk, wo + j, none⟩ = some (.int .u8 (ww j : Int)) ∧ ww j ≤ 255
  rp : 0 < nr → ar = some ⟨rb, ro, none⟩
  r0 : ∀ i, i < nr → w.cell? ⟨rb, ro + i * 3, none⟩ = some (.bool (wrt i))
  r1 : ∀ i, i < nr → w.cell? ⟨rb, ro + i * 3 + 1, none⟩ = some (.int .u8 (rat i : Int)) ∧ rat i ≤ 255
  r2 : ∀ i, i < nr → w.cell? ⟨rb, ro + i * 3 + 2, none⟩ = some (.slice (ia i) (ni i) (ic i))
  ip : ∀ i, i < nr → 0 < ni i → ia i = some ⟨qb i, qo i, none⟩
  iz : ∀ i, i < nr → ∀ j, j < ni i → w.cell? ⟨qb i, qo i + j, none⟩ = some (.int .u8 (z i j : Int)) ∧ z i j ≤ 255
  tp : ∀ x, x < 4 → 0 < tn x → ta x = some ⟨tb x, to x, none⟩
  tcell : ∀ x, x < 4 → ∀ j, j < tn x → w.cell? ⟨tb x, to x + j, none⟩ = some (.int .u8 (tz x j : Int)) ∧ tz x j ≤ 255
  sb : ∀ x, x < 4 → -32768 ≤ sa x ∧ sa x ≤ 32767
  g0 : w.cell? ⟨0, 0, none⟩ = some (.int .i64 (-1))
  g1 : w.cell? ⟨0, 1, none⟩ = some (.bool false)

/-- the three boxed arguments -/
structure BoxAt (ta : Nat → Option Addr) (tn tc : Nat → Nat) (sa : Nat → Int) (sf : Nat → Bool) (B : Nat) (w : World) : Prop where
  t : w.rowIs B 24 4 (fun x => .slice (ta x) (tn x) (tc x))
  a : w.rowIs (B + 1) 26 4 (fun x => .int .i16 (sa x))
  f : w.rowIs (B + 2) 27 4 (fun x => .bool (sf x))
theorem BoxAt.below {ta : Nat → Option Addr} {tn tc : Nat → Nat} {sa : Nat → Int} {sf : Nat → Bool} {B : Nat} {w w' : World} (h : BoxAt ta tn tc sa sf B w) (hb : Below w.heap.size w w') : BoxAt ta tn tc sa sf B w' :=
  ⟨rowIs_below h.t hb, rowIs_below h.a hb, rowIs_below h.f hb⟩
/-- the row of standings that is handed to after -/
def StAt (sa : Nat → Int) (sf : Nat → Bool) (ST : Nat) (w : World) : Prop := w.rowIs ST 45 8 (fun j => if j % 2 = 0 then .int .i64 (sa (j / 2)) else .bool (sf (j / 2)))

/-- a row of ints that the call has built by append -/
def IntsAt (B : Nat) (v : Value) (l : List Nat) (w : World) : Prop := w.ownsRow B 3 1 v l.length (l.map (fun (x : Nat) => Value.int .i64 (x : Int)))

def dropSeq : Nat → Code → Code
  | 0, c => c
  | n + 1, .seq _ b => dropSeq n b
  | _ + 1, c => c
def tailSeq : Code → Code
  | .seq _ b => b
  | c => c
def headSeq : Code → Code
  | .seq a _ => a
  | c => c
end Go.Proofs.YbulkbhpqDoor
