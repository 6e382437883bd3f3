/- binary.BigEndian's Uint32 (10), Uint64 (11). -/
import Derived.Test.YbulkbhqeLeaves
import Derived.WalkKit
import Derived.WalkSpells
import Derived.WalkSmall
import Derived.BigRegion
import Derived.Deep.RegionWith
import Derived.Deep.RegionHeld3
import Derived.Deep.QuietTactic
import Derived.Deep.OwnRows
import Derived.BigQuiet
import Derived.Lib.EndianBits
namespace Go.Proofs.Ybulkbhqe
open Go.RowKit
set_option linter.unusedVariables false

set_option maxHeartbeats 2000000 in
theorem get32 (g o n c : Nat) (b0 b1 b2 b3 : Int) (w : World) (hn : 4 ≤ n)
    (c0 : w.cell? ⟨g, o, none⟩ = some (.int .u8 b0)) (c1 : w.cell? ⟨g, o + 1, none⟩ = some (.int .u8 b1)) (c2 : w.cell? ⟨g, o + 2, none⟩ = some (.int .u8 b2)) (c3 : w.cell? ⟨g, o + 3, none⟩ = some (.int .u8 b3))
    (l0 : 0 ≤ b0) (u0 : b0 ≤ 255) (l1 : 0 ≤ b1) (u1 : b1 ≤ 255) (l2 : 0 ≤ b2) (u2 : b2 ≤ 255) (l3 : 0 ≤ b3) (u3 : b3 ≤ 255) :
    Calls Yba.prog 10 #[.agg #[], .slice (some ⟨g, o, none⟩) n c] w fun e w' => e = .returned (.int .u32 (b0 * 16777216 + b1 * 65536 + b2 * 256 + b3)) ∧ ∃ q, w' = (w.alloc (.cells #[] 37)).drewN q := by
  have i0 : 0 < n := by omega
  have i1 : (1 : Int) < (n : Int) := by omega
  have i2 : (2 : Int) < (n : Int) := by omega
  have i3 : (3 : Int) < (n : Int) := by omega
  have k : ∀ {b i : Nat} {v : Value}, w.cell? ⟨b, i, none⟩ = some v → (w.alloc (.cells #[] 37)).cell? ⟨b, i, none⟩ = some v := fun {b i v} h => (((Below.refl w.heap.size w).alloc (Nat.le_refl _) _).cell (p := ⟨b, i, none⟩) (World.block_lt_of_cell? w _ h)).trans h
  have d0 := k c0
  have d1 := k c1
  have d2 := k c2
  have d3 := k c3
  go_enter Yba.func10, Yba.ntmps10
  go_wp2
  go_quiet (fail)
  go_wp2
  go_ret
  refine ⟨?_, _, rfl⟩
  show Ending.returned (Value.int .u32 _) = _
  rw [u32_or8 (y := b3) (x := b2 * 256) (by omega) (by omega) (by omega) (by omega) (by omega)]
  rw [u32_or16 (y := b3 + b2 * 256) (x := b1 * 65536) (by omega) (by omega) (by omega) (by omega) (by omega)]
  rw [u32_or24 (y := b3 + b2 * 256 + b1 * 65536) (x := b0 * 16777216) (by omega) (by omega) (by omega) (by omega) (by omega)]
  rw [show b3 + b2 * 256 + b1 * 65536 + b0 * 16777216 = b0 * 16777216 + b1 * 65536 + b2 * 256 + b3 by omega]

set_option maxHeartbeats 4000000 in
theorem get64 (g o n c : Nat) (b0 b1 b2 b3 b4 b5 b6 b7 : Int) (w : World) (hn : 8 ≤ n)
    (c0 : w.cell? ⟨g, o, none⟩ = some (.int .u8 b0)) (c1 : w.cell? ⟨g, o + 1, none⟩ = some (.int .u8 b1)) (c2 : w.cell? ⟨g, o + 2, none⟩ = some (.int .u8 b2)) (c3 : w.cell? ⟨g, o + 3, none⟩ = some (.int .u8 b3))
    (c4 : w.cell? ⟨g, o + 4, none⟩ = some (.int .u8 b4)) (c5 : w.cell? ⟨g, o + 5, none⟩ = some (.int .u8 b5)) (c6 : w.cell? ⟨g, o + 6, none⟩ = some (.int .u8 b6)) (c7 : w.cell? ⟨g, o + 7, none⟩ = some (.int .u8 b7))
    (l0 : 0 ≤ b0) (u0 : b0 ≤ 255) (l1 : 0 ≤ b1) (u1 : b1 ≤ 255) (l2 : 0 ≤ b2) (u2 : b2 ≤ 255) (l3 : 0 ≤ b3) (u3 : b3 ≤ 255) (l4 : 0 ≤ b4) (u4 : b4 ≤ 255) (l5 : 0 ≤ b5) (u5 : b5 ≤ 255) (l6 : 0 ≤ b6) (u6 : b6 ≤ 255) (l7 : 0 ≤ b7) (u7 : b7 ≤ 255) :
    Calls Yba.prog 11 #[.agg #[], .slice (some ⟨g, o, none⟩) n c] w fun e w' => e = .returned (.int .u64 (b0 * 72057594037927936 + b1 * 281474976710656 + b2 * 1099511627776 + b3 * 4294967296 + b4 * 16777216 + b5 * 65536 + b6 * 256 + b7)) ∧ ∃ q, w' = (w.alloc (.cells #[] 37)).drewN q := by
  have i0 : 0 < n := by omega
  have i1 : (1 : Int) < (n : Int) := by omega
  have i2 : (2 : Int) < (n : Int) := by omega
  have i3 : (3 : Int) < (n : Int) := by omega
  have i4 : (4 : Int) < (n : Int) := by omega
  have i5 : (5 : Int) < (n : Int) := by omega
  have i6 : (6 : Int) < (n : Int) := by omega
  have i7 : (7 : Int) < (n : Int) := by omega
  have k : ∀ {b i : Nat} {v : Value}, w.cell? ⟨b, i, none⟩ = some v → (w.alloc (.cells #[] 37)).cell? ⟨b, i, none⟩ = some v := fun {b i v} h => (((Below.refl w.heap.size w).alloc (Nat.le_refl _) _).cell (p := ⟨b, i, none⟩) (World.block_lt_of_cell? w _ h)).trans h
  have d0 := k c0
  have d1 := k c1
  have d2 := k c2
  have d3 := k c3
  have d4 := k c4
  have d5 := k c5
  have d6 := k c6
  have d7 := k c7
  go_enter Yba.func11, Yba.ntmps11
  go_wp2
  go_quiet (fail)
  go_wp2
  go_ret
  refine ⟨?_, _, rfl⟩
  show Ending.returned (Value.int .u64 _) = _
  rw [u64_or8 (y := b7) (x := b6 * 256) (by omega) (by omega) (by omega) (by omega) (by omega)]
  rw [u64_or16 (y := b7 + b6 * 256) (x := b5 * 65536) (by omega) (by omega) (by omega) (by omega) (by omega)]
  rw [u64_or24 (y := b7 + b6 * 256 + b5 * 65536) (x := b4 * 16777216) (by omega) (by omega) (by omega) (by omega) (by omega)]
  rw [u64_or32 (y := b7 + b6 * 256 + b5 * 65536 + b4 * 16777216) (x := b3 * 4294967296) (by omega) (by omega) (by omega) (by omega) (by omega)]
  rw [u64_or40 (y := b7 + b6 * 256 + b5 * 65536 + b4 * 16777216 + b3 * 4294967296) (x := b2 * 1099511627776) (by omega) (by omega) (by omega) (by omega) (by omega)]
  rw [u64_or48 (y := b7 + b6 * 256 + b5 * 65536 + b4 * 16777216 + b3 * 4294967296 + b2 * 1099511627776) (x := b1 * 281474976710656) (by omega) (by omega) (by omega) (by omega) (by omega)]
  rw [u64_or56 (y := b7 + b6 * 256 + b5 * 65536 + b4 * 16777216 + b3 * 4294967296 + b2 * 1099511627776 + b1 * 281474976710656) (x := b0 * 72057594037927936) (by omega) (by omega) (by omega) (by omega) (by omega)]
  rw [show b7 + b6 * 256 + b5 * 65536 + b4 * 16777216 + b3 * 4294967296 + b2 * 1099511627776 + b1 * 281474976710656 + b0 * 72057594037927936 = b0 * 72057594037927936 + b1 * 281474976710656 + b2 * 1099511627776 + b3 * 4294967296 + b4 * 16777216 + b5 * 65536 + b6 * 256 + b7 by omega]
end Go.Proofs.Ybulkbhqe
