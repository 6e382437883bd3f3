/- The short ways of serialis.LawS2928BModel (function 3): more than 1024 writers; none, nil or not. -/
import Derived.Test.YbulkbhpqProg
import Derived.Test.YbulkbhpqBModelWalk
import Derived.WalkKit
import Derived.WalkSpells
import Derived.Outline
namespace Go.Proofs.Ybulkbhpq
open Go.RowKit

theorem bmodel_long (ao : Option Addr) (n c : Nat) (w : World) (hn : 1024 < n) :
    Calls Yba.prog 3 #[.slice ao n c] w fun e w' => e = .returned (.bool true) ∧ Below w.heap.size w w' := by
  have hn' : (1024 : Int) < (n : Int) := by omega
  go_enter Yba.func3, Yba.ntmps3
  go_wp2
  go_ret
  exact ⟨rfl, Below.refl _ _⟩

set_option maxHeartbeats 1000000 in
set_option maxRecDepth 10000 in
theorem bmodel_nil (w : World) :
    Calls Yba.prog 3 #[.slice none 0 0] w fun e w' => e = .returned (.bool true) ∧ Below w.heap.size w w' := by
  have hq := fun wx a l c => run_neq_slice_nil_any (P := Yba.prog) wx 22 25 a l c 0 0 Yba.underlying22
  have hq28 := fun wx a l c => Lib.run_eql_slice_nil (P := Yba.prog) wx 28 3 a l c 0 0 Yba.underlying28
  go_enter Yba.func3, Yba.ntmps3
  go_wp2
  refine wp_loop_rounds 1 ?_
  rw [rounds_succ]
  go_wp2_with (go_at_call 5; refine (hopeless_none _ _ _).mono ?_; rintro e w1 ⟨rfl, rfl⟩)
  refine wp_loop_rounds 1 ?_
  rw [rounds_succ]
  go_wp2
  refine wp_loop_rounds 1 ?_
  rw [rounds_succ]
  go_wp2
  refine wp_loop_rounds 1 ?_
  rw [rounds_succ]
  go_wp2
  go_ret
  exact ⟨rfl, Below.refl _ _⟩

set_option maxHeartbeats 1000000 in
set_option maxRecDepth 10000 in
theorem bmodel_zero (x : Addr) (c : Nat) (w : World) :
    Calls Yba.prog 3 #[.slice (some x) 0 c] w fun e w' => e = .returned (.bool true) ∧ Below w.heap.size w w' := by
  have hq := fun wx a l c => run_neq_slice_nil_any (P := Yba.prog) wx 22 25 a l c 0 0 Yba.underlying22
  have hq28 := fun wx a l c => Lib.run_eql_slice_nil (P := Yba.prog) wx 28 3 a l c 0 0 Yba.underlying28
  obtain ⟨i0, hi, hz0, hz1, hz2⟩ := info_parts info27
  go_enter Yba.func3, Yba.ntmps3
  go_wp2_with (first
    | (at_make; refine wpList_make_full _ rfl _ _ 23 rfl w.heap.size 27 i0 (.agg #[.int .i64 0, .int .i64 0, .int .i64 0]) 3 Yba.underlying23 hi hz0 hz1 .i64 .i64 _ _ 0 rfl rfl (by omega) (by omega) (by rw [hz2]; omega) (by unfold maxLen; omega) (Nat.le_refl _) ?_; intro w0 hown0 hg0)
    | go_in)
  refine wp_loop_rounds 1 ?_
  rw [rounds_succ]
  go_wp2_with (go_at_call 5; refine (hopeless_none _ _ _).mono ?_; rintro e w1 ⟨rfl, rfl⟩)
  refine wp_loop_rounds 1 ?_
  rw [rounds_succ]
  go_wp2
  refine wp_loop_rounds 1 ?_
  rw [rounds_succ]
  go_wp2
  refine wp_loop_rounds 1 ?_
  rw [rounds_succ]
  go_wp2
  go_ret
  exact ⟨rfl, (Below.refl _ _).grown hg0 (Nat.le_refl _) (fun k hk => by cases hk)⟩
end Go.Proofs.Ybulkbhpq
