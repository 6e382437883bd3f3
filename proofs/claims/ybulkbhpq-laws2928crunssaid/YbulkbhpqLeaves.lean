/- The small functions on the road of LawS2928CRuns: span.column (12), the two closures of unorderedOnRuns (11, 13). -/
import Derived.Test.YbulkbhpqProg
import Derived.WalkKit
import Derived.WalkSpells
import Derived.WalkSmall
import Derived.BigRegion
import Derived.Deep.RegionWith
import Derived.Deep.RegionHeld3
import Derived.Deep.QuietTactic
import Derived.BigQuiet
import Derived.Outline
namespace Go.Proofs.Ybulkbhpq
open Go.RowKit
set_option linter.unusedVariables false

theorem hideR {p : Prop} (h : p) : Hid p := h
theorem unhideR {p : Prop} (h : Hid p) : p := h

theorem column_any (W c : Int) (w : World) (hc0 : 0 ≤ c) (hc : c ≤ 2147483647) :
    Calls Yba.prog 12 #[.agg #[.int .i64 0, .int .i64 W], .int .i64 c] w fun e w' => e = .returned (.int .i64 c) ∧ w' = w.alloc (.cells #[.int .i64 0, .int .i64 W] 45) := by
  go_enter Yba.func12, Yba.ntmps12
  go_wp2
  go_ret
  exact ⟨by simp, rfl⟩

theorem old_cell {w : World} {b i : Nat} {v : Value} (h : w.cell? ⟨b, i, none⟩ = some v) (o : Obj) : (w.alloc o).cell? ⟨b, i, none⟩ = some v :=
  (((Below.refl w.heap.size w).alloc (Nat.le_refl _) o).cell (p := ⟨b, i, none⟩) (World.block_lt_of_cell? w _ h)).trans h
theorem wrap_small (c : Nat) (h : c ≤ 2147483647) : IntKind.i64.wrap (c : Int) = (c : Int) := by rw [IntKind.wrap_i64]; omega

set_option maxHeartbeats 1000000 in
theorem clos1_any (b1 b2 LB CT W cW ch : Nat) (pos lt : Int) (w : World) (hch : ch < W) (hW : W ≤ 300)
    (c1 : w.cell? ⟨b1, 0, none⟩ = some (.slice (some ⟨LB, 0, none⟩) W cW)) (c2 : w.cell? ⟨b2, 0, none⟩ = some (.pointer (some ⟨CT, 0, none⟩)))
    (t0 : w.cell? ⟨CT, 0, none⟩ = some (.int .i64 0)) (t1 : w.cell? ⟨CT, 1, none⟩ = some (.int .i64 (W : Int))) (l : w.cell? ⟨LB, ch, none⟩ = some (.int .i32 lt)) :
    Calls Yba.prog 11 #[.agg #[.int .i32 (ch : Int), .int .i32 pos], .pointer (some ⟨b1, 0, none⟩), .pointer (some ⟨b2, 0, none⟩)] w fun e w' => e = .returned (.bool (decide (pos ≤ lt))) ∧ Below w.heap.size w w' := by
  have e1 : ∀ o, (w.alloc o).cell? ⟨b1, 0, none⟩ = some (.slice (some ⟨LB, 0, none⟩) W cW) := fun o => old_cell c1 o
  have e2 : ∀ o, (w.alloc o).cell? ⟨b2, 0, none⟩ = some (.pointer (some ⟨CT, 0, none⟩)) := fun o => old_cell c2 o
  have e3 : ∀ o, (w.alloc o).cell? ⟨CT, 0, none⟩ = some (.int .i64 0) := fun o => old_cell t0 o
  have e4 : ∀ o, (w.alloc o).cell? ⟨CT, 1, none⟩ = some (.int .i64 (W : Int)) := fun o => old_cell t1 o
  have e5 : ∀ o, (w.alloc o).cell? ⟨LB, ch, none⟩ = some (.int .i32 lt) := fun o => old_cell l o
  have hi0 : (0 : Int) ≤ (ch : Int) := by omega
  have hi1 : (ch : Int) < (W : Int) := by omega
  have hwr := wrap_small ch (by omega)
  go_enter Yba.func11, Yba.ntmps11
  go_wp2
  go_region_held3 (fun w' => w'.cell? ⟨w.heap.size, 0, none⟩ = some (.int .i32 (ch : Int)) ∧ w'.cell? ⟨w.heap.size, 1, none⟩ = some (.int .i32 pos) ∧ w'.cell? ⟨b1, 0, none⟩ = some (.slice (some ⟨LB, 0, none⟩) W cW) ∧ w'.cell? ⟨b2, 0, none⟩ = some (.pointer (some ⟨CT, 0, none⟩)) ∧ w'.cell? ⟨CT, 0, none⟩ = some (.int .i64 0) ∧ w'.cell? ⟨CT, 1, none⟩ = some (.int .i64 (W : Int)) ∧ w'.cell? ⟨LB, ch, none⟩ = some (.int .i32 lt)) (go_keep)
    (first | (go_at_call 12; refine (column_any (W : Int) (ch : Int) _ (by omega) (by omega)).mono ?_; rintro e w' ⟨rfl, rfl⟩))
  all_goals go_wp2
  all_goals go_ret
  all_goals exact ⟨rfl, by repeat (first | exact Below.refl _ _ | apply Below.drew | refine Below.alloc ?_ (by simp; try omega) _)⟩
set_option maxHeartbeats 1000000 in
theorem clos2_any (b1 b2 LB CT W cW ch : Nat) (pos lt : Int) (w : World) (hch : ch < W) (hW : W ≤ 300)
    (c1 : w.cell? ⟨b1, 0, none⟩ = some (.slice (some ⟨LB, 0, none⟩) W cW)) (c2 : w.cell? ⟨b2, 0, none⟩ = some (.pointer (some ⟨CT, 0, none⟩)))
    (t0 : w.cell? ⟨CT, 0, none⟩ = some (.int .i64 0)) (t1 : w.cell? ⟨CT, 1, none⟩ = some (.int .i64 (W : Int))) (l : w.cell? ⟨LB, ch, none⟩ = some (.int .i32 lt)) :
    Calls Yba.prog 13 #[.agg #[.int .i32 (ch : Int), .int .i32 pos], .pointer (some ⟨b1, 0, none⟩), .pointer (some ⟨b2, 0, none⟩)] w fun e w' => e = .returned (.bool (decide (pos < lt))) ∧ Below w.heap.size w w' := by
  have e1 : ∀ o, (w.alloc o).cell? ⟨b1, 0, none⟩ = some (.slice (some ⟨LB, 0, none⟩) W cW) := fun o => old_cell c1 o
  have e2 : ∀ o, (w.alloc o).cell? ⟨b2, 0, none⟩ = some (.pointer (some ⟨CT, 0, none⟩)) := fun o => old_cell c2 o
  have e3 : ∀ o, (w.alloc o).cell? ⟨CT, 0, none⟩ = some (.int .i64 0) := fun o => old_cell t0 o
  have e4 : ∀ o, (w.alloc o).cell? ⟨CT, 1, none⟩ = some (.int .i64 (W : Int)) := fun o => old_cell t1 o
  have e5 : ∀ o, (w.alloc o).cell? ⟨LB, ch, none⟩ = some (.int .i32 lt) := fun o => old_cell l o
  have hi0 : (0 : Int) ≤ (ch : Int) := by omega
  have hi1 : (ch : Int) < (W : Int) := by omega
  have hwr := wrap_small ch (by omega)
  go_enter Yba.func13, Yba.ntmps13
  go_wp2
  go_region_held3 (fun w' => w'.cell? ⟨w.heap.size, 0, none⟩ = some (.int .i32 (ch : Int)) ∧ w'.cell? ⟨w.heap.size, 1, none⟩ = some (.int .i32 pos) ∧ w'.cell? ⟨b1, 0, none⟩ = some (.slice (some ⟨LB, 0, none⟩) W cW) ∧ w'.cell? ⟨b2, 0, none⟩ = some (.pointer (some ⟨CT, 0, none⟩)) ∧ w'.cell? ⟨CT, 0, none⟩ = some (.int .i64 0) ∧ w'.cell? ⟨CT, 1, none⟩ = some (.int .i64 (W : Int)) ∧ w'.cell? ⟨LB, ch, none⟩ = some (.int .i32 lt)) (go_keep)
    (first | (go_at_call 12; refine (column_any (W : Int) (ch : Int) _ (by omega) (by omega)).mono ?_; rintro e w' ⟨rfl, rfl⟩))
  all_goals go_wp2
  all_goals go_ret
  all_goals exact ⟨rfl, by repeat (first | exact Below.refl _ _ | apply Below.drew | refine Below.alloc ?_ (by simp; try omega) _)⟩
end Go.Proofs.Ybulkbhpq
