/- encodeEntryHeader (5). -/
import Derived.Test.YbulkbhqeLeaves
import Derived.WalkKit
import Derived.WalkSpells
import Derived.WalkSmall
import Derived.BigRegion
import Derived.Deep.RegionWith
import Derived.Deep.RegionHeld3
import Derived.Deep.QuietTactic
import Derived.Deep.OwnRows
import Derived.BigQuiet
import Derived.Lib.EndianBits
namespace Go.Proofs.Ybulkbhqe
open Go.RowKit
set_option linter.unusedVariables false

/-- What encodeEntryHeader leaves of a row. -/
def enc (f : Nat → Value) (kind length file record before : Int) : Nat → Value :=
  put (put (put (put (put f 0 4 kind) 4 4 (length % 4294967296)) 8 4 file) 12 4 record) 16 8 (before % 18446744073709551616)

set_option maxHeartbeats 2000000 in
theorem encode (g t N c : Nat) (f : Nat → Value) (off file record before kind length : Int) (w : World) (R : w.rowIs g t N f) (hN : 24 ≤ N) (hc : 24 ≤ c)
    (k0 : 0 ≤ kind) (k1 : kind ≤ 4294967295) (f0 : 0 ≤ file) (f1 : file ≤ 4294967295) (r0 : 0 ≤ record) (r1 : record ≤ 4294967295) :
    Calls Yba.prog 5 #[.slice (some ⟨g, 0, none⟩) N c, .agg #[.int .i64 off, .int .u32 file, .int .u32 record, .int .i64 before, .int .u32 kind, .int .i64 length]] w
      fun e w' => e = .returned (.tuple #[]) ∧ w'.rowIs g t N (enc f kind length file record before) ∧ Kp g w w' := by
  have hg := R.lt
  have R0 := R.alloc (.cells #[.int .i64 off, .int .u32 file, .int .u32 record, .int .i64 before, .int .u32 kind, .int .i64 length] 27)
  have s0 : (0 : Int) ≤ (N : Int) := by omega
  have s4 : (4 : Int) ≤ (N : Int) := by omega
  have s8 : (8 : Int) ≤ (N : Int) := by omega
  have s12 : (12 : Int) ≤ (N : Int) := by omega
  have s16 : (16 : Int) ≤ (N : Int) := by omega
  have al : ∀ i v, (#[.int .i64 off, .int .u32 file, .int .u32 record, .int .i64 before, .int .u32 kind, .int .i64 length] : Array Value)[i]? = some v → (w.alloc (.cells #[.int .i64 off, .int .u32 file, .int .u32 record, .int .i64 before, .int .u32 kind, .int .i64 length] 27)).drew.cell? ⟨w.heap.size, i, none⟩ = some v := fun i v h => (World.cell?_alloc_at _ _ _ _ rfl).trans h
  have a1 := al 1 _ rfl
  have a2 := al 2 _ rfl
  have a3 := al 3 _ rfl
  have a4 := al 4 _ rfl
  have a5 := al 5 _ rfl
  clear al
  have hne : w.heap.size ≠ g := by omega
  have n4 : ¬ c = 4 := by omega
  have n8 : ¬ c = 8 := by omega
  have n12 : ¬ c = 12 := by omega
  have n16 : ¬ c = 16 := by omega
  go_enter Yba.func5, Yba.ntmps5
  go_wp2
  go_region_held3 (fun w' => w'.cell? ⟨w.heap.size, 4, none⟩ = some (.int .u32 kind)) (first | go_keep | exact K1.cell a4 hne)
    ((go_at_call 8; refine (put32 g t N 0 N c f kind _ k0 k1 R0.drew (by omega) (by omega)).mono ?_; rintro e w1 ⟨rfl, R1, K1⟩))
  have b1 := K1.cell a1 hne
  have b2 := K1.cell a2 hne
  have b3 := K1.cell a3 hne
  have b5 := K1.cell a5 hne
  go_wp2
  go_region_held3 (fun w' => w'.cell? ⟨w.heap.size, 5, none⟩ = some (.int .i64 length)) (first | go_keep | exact K2.cell (w := w1.drew) b5 hne)
    ((go_at_call 8; rw [IntKind.wrap_u32]; refine (put32 g t N 4 (N - 4) (c - 4) _ (length % 4294967296) _ (by omega) (by omega) R1.drew (by omega) (by omega)).mono ?_; rintro e w2 ⟨rfl, R2, K2⟩))
  have b1x := K2.cell (w := w1.drew) b1 hne
  have b2x := K2.cell (w := w1.drew) b2 hne
  have b3x := K2.cell (w := w1.drew) b3 hne
  go_wp2
  go_region_held3 (fun w' => w'.cell? ⟨w.heap.size, 1, none⟩ = some (.int .u32 file)) (first | go_keep | exact K3.cell (w := w2.drew) b1x hne)
    ((go_at_call 8; refine (put32 g t N 8 (N - 8) (c - 8) _ file _ f0 f1 R2.drew (by omega) (by omega)).mono ?_; rintro e w3 ⟨rfl, R3, K3⟩))
  have b2xx := K3.cell (w := w2.drew) b2x hne
  have b3xx := K3.cell (w := w2.drew) b3x hne
  go_wp2
  go_region_held3 (fun w' => w'.cell? ⟨w.heap.size, 2, none⟩ = some (.int .u32 record)) (first | go_keep | exact K4.cell (w := w3.drew) b2xx hne)
    ((go_at_call 8; refine (put32 g t N 12 (N - 12) (c - 12) _ record _ r0 r1 R3.drew (by omega) (by omega)).mono ?_; rintro e w4 ⟨rfl, R4, K4⟩))
  have b3xxx := K4.cell (w := w3.drew) b3xx hne
  go_wp2
  go_region_held3 (fun w' => w'.cell? ⟨w.heap.size, 3, none⟩ = some (.int .i64 before)) (first | go_keep | exact K5.cell (w := w4.drew) b3xxx hne)
    ((go_at_call 9; rw [IntKind.wrap_u64]; refine (put64 g t N 16 (N - 16) (c - 16) _ (before % 18446744073709551616) _ (by omega) (by omega) R4.drew (by omega) (by omega)).mono ?_; rintro e w5 ⟨rfl, R5, K5⟩))
  go_wp2
  go_end0
  exact ⟨rfl, R5, ((((((Kp.refl _ _).alloc _).drew.trans K1).drew.trans K2).drew.trans K3).drew.trans K4).drew.trans K5⟩
end Go.Proofs.Ybulkbhqe
