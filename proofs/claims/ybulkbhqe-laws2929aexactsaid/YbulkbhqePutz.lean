/- zzs2929aput (6) at n = 4 and n = 8. -/
import Derived.Test.YbulkbhqeLeaves
import Derived.WalkKit
import Derived.WalkSpells
import Derived.WalkSmall
import Derived.BigRegion
import Derived.Deep.RegionWith
import Derived.Deep.RegionHeld3
import Derived.Deep.QuietTactic
import Derived.Deep.OwnRows
import Derived.BigQuiet
import Derived.Lib.EndianBits
namespace Go.Proofs.Ybulkbhqe
open Go.RowKit
set_option linter.unusedVariables false

set_option maxHeartbeats 2000000 in
theorem putz4 (g t N i c : Nat) (f : Nat → Value) (v : Int) (w : World) (h0 : 0 ≤ v) (h1 : v ≤ 18446744073709551615) (R : w.rowIs g t N f) (ho : i + 4 ≤ N) (hN : N ≤ 100) :
    Calls Yba.prog 6 #[.slice (some ⟨g, 0, none⟩) N c, .int .i64 (i : Int), .int .u64 v, .int .i64 4] w fun e w' => e = .returned (.tuple #[]) ∧ w'.rowIs g t N (put f i 4 v) ∧ Kp g w w' := by
  have c0 := R.cell (i := i) (by omega)
  have c1 := R.cell (i := i + 1) (by omega)
  have c2 := R.cell (i := i + 2) (by omega)
  have c3 := R.cell (i := i + 3) (by omega)
  have f0 := R.frozen i
  have f1 := R.frozen (i + 1)
  have f2 := R.frozen (i + 2)
  have f3 := R.frozen (i + 3)
  have i0 : (i : Int) < (N : Int) := by omega
  have i1 : (i : Int) + 1 < (N : Int) := by omega
  have i2 : (i : Int) + 2 < (N : Int) := by omega
  have i3 : (i : Int) + 3 < (N : Int) := by omega
  go_enter Yba.func6, Yba.ntmps6
  go_wp2
  refine wp_loop_rounds 5 ?_
  rw [rounds_succ]
  go_wp2
  rw [rounds_succ]
  go_wp2
  rw [rounds_succ]
  go_wp2
  rw [rounds_succ]
  go_wp2
  rw [rounds_succ]
  go_wp2
  go_end0
  refine ⟨rfl, put4_of R rfl rfl rfl rfl, ((((Kp.refl _ _).setCell _).setCell _).setCell _).setCell _⟩
set_option maxHeartbeats 2000000 in
theorem putz8 (g t N i c : Nat) (f : Nat → Value) (v : Int) (w : World) (h0 : 0 ≤ v) (h1 : v ≤ 18446744073709551615) (R : w.rowIs g t N f) (ho : i + 8 ≤ N) (hN : N ≤ 100) :
    Calls Yba.prog 6 #[.slice (some ⟨g, 0, none⟩) N c, .int .i64 (i : Int), .int .u64 v, .int .i64 8] w fun e w' => e = .returned (.tuple #[]) ∧ w'.rowIs g t N (put f i 8 v) ∧ Kp g w w' := by
  have c0 := R.cell (i := i) (by omega)
  have c1 := R.cell (i := i + 1) (by omega)
  have c2 := R.cell (i := i + 2) (by omega)
  have c3 := R.cell (i := i + 3) (by omega)
  have c4 := R.cell (i := i + 4) (by omega)
  have c5 := R.cell (i := i + 5) (by omega)
  have c6 := R.cell (i := i + 6) (by omega)
  have c7 := R.cell (i := i + 7) (by omega)
  have f0 := R.frozen i
  have f1 := R.frozen (i + 1)
  have f2 := R.frozen (i + 2)
  have f3 := R.frozen (i + 3)
  have f4 := R.frozen (i + 4)
  have f5 := R.frozen (i + 5)
  have f6 := R.frozen (i + 6)
  have f7 := R.frozen (i + 7)
  have i0 : (i : Int) < (N : Int) := by omega
  have i1 : (i : Int) + 1 < (N : Int) := by omega
  have i2 : (i : Int) + 2 < (N : Int) := by omega
  have i3 : (i : Int) + 3 < (N : Int) := by omega
  have i4 : (i : Int) + 4 < (N : Int) := by omega
  have i5 : (i : Int) + 5 < (N : Int) := by omega
  have i6 : (i : Int) + 6 < (N : Int) := by omega
  have i7 : (i : Int) + 7 < (N : Int) := by omega
  go_enter Yba.func6, Yba.ntmps6
  go_wp2
  refine wp_loop_rounds 9 ?_
  rw [rounds_succ]
  go_wp2
  rw [rounds_succ]
  go_wp2
  rw [rounds_succ]
  go_wp2
  rw [rounds_succ]
  go_wp2
  rw [rounds_succ]
  go_wp2
  rw [rounds_succ]
  go_wp2
  rw [rounds_succ]
  go_wp2
  rw [rounds_succ]
  go_wp2
  rw [rounds_succ]
  go_wp2
  go_end0
  refine ⟨rfl, put8_of R (by omega) rfl rfl rfl rfl rfl rfl rfl, ((((((((Kp.refl _ _).setCell _).setCell _).setCell _).setCell _).setCell _).setCell _).setCell _).setCell _⟩
end Go.Proofs.Ybulkbhqe
