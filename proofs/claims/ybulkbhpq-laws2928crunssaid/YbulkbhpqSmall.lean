/- chainTables.row (8), slices.BinarySearch at none or one element (15), pairSearch.writeRead (14), pairSearch.partnerRuns (9), slices.Equal at equal rows (7). -/
import Derived.Test.YbulkbhpqPrefix
import Derived.WalkKit
import Derived.Outline
namespace Go.Proofs.Ybulkbhpq
open Go.RowKit
set_option linter.unusedVariables false

set_option maxHeartbeats 1000000 in
theorem row_any (CT LB W : Nat) (w : World) (hW : W ≤ 300) (t1 : w.cell? ⟨CT, 1, none⟩ = some (.int .i64 (W : Int))) :
    Calls Yba.prog 8 #[.pointer (some ⟨CT, 0, none⟩), .slice (some ⟨LB, 0, none⟩) W W, .int .i64 0] w fun e w' => e = .returned (.slice (some ⟨LB, 0, none⟩) W W) ∧ ∃ q, w' = w.drewN q := by
  have h0 : (0 : Int) ≤ (W : Int) := by omega
  go_enter Yba.func8, Yba.ntmps8
  go_wp2
  go_quiet (fail)
  go_wp2
  go_ret
  exact ⟨rfl, _, rfl⟩

set_option maxHeartbeats 1000000 in
theorem bsearch_none (w : World) : Calls Yba.prog 15 #[.slice none 0 0, .int .i64 0] w fun e w' => e = .returned (.tuple #[.int .i64 0, .bool false]) ∧ w' = w := by
  go_enter Yba.func15, Yba.ntmps15
  go_wp2
  refine wp_loop_rounds 1 ?_
  rw [rounds_succ]
  go_wp2
  go_ret2
  exact ⟨rfl, rfl⟩

set_option maxHeartbeats 1000000 in
theorem bsearch_one (g : Nat) (w : World) (hc : w.cell? ⟨g, 0, none⟩ = some (.int .i64 0)) : Calls Yba.prog 15 #[.slice (some ⟨g, 0, none⟩) 1 1, .int .i64 0] w fun e w' => e = .returned (.tuple #[.int .i64 0, .bool true]) ∧ w' = w := by
  go_enter Yba.func15, Yba.ntmps15
  go_wp2
  refine wp_loop_rounds 2 ?_
  rw [rounds_succ]
  go_wp2
  rw [rounds_succ]
  go_wp2
  go_ret2
  exact ⟨rfl, rfl⟩

theorem writeRead_no (S RI n c : Nat) (w : World) (hn : 1 ≤ n) (s4 : w.cell? ⟨S, 4, none⟩ = some (.slice (some ⟨RI, 0, none⟩) n c)) (r0 : w.cell? ⟨RI, 0, none⟩ = some (.slice none 0 0)) :
    Calls Yba.prog 14 #[.pointer (some ⟨S, 0, none⟩), .int .i64 0, .int .i64 0] w fun e w' => e = .returned (.bool false) ∧ w' = w := by
  have hn' : (0 : Int) < (n : Int) := by omega
  go_enter Yba.func14, Yba.ntmps14
  go_wp2_with (go_at_call 15; refine (bsearch_none _).mono ?_; rintro e w' ⟨rfl, rfl⟩)
  go_ret
  exact ⟨rfl, rfl⟩

theorem writeRead_yes (S RI n c g : Nat) (w : World) (hn : 1 ≤ n) (s4 : w.cell? ⟨S, 4, none⟩ = some (.slice (some ⟨RI, 0, none⟩) n c)) (r0 : w.cell? ⟨RI, 0, none⟩ = some (.slice (some ⟨g, 0, none⟩) 1 1)) (hg : w.cell? ⟨g, 0, none⟩ = some (.int .i64 0)) :
    Calls Yba.prog 14 #[.pointer (some ⟨S, 0, none⟩), .int .i64 0, .int .i64 0] w fun e w' => e = .returned (.bool true) ∧ w' = w := by
  have hn' : (0 : Int) < (n : Int) := by omega
  go_enter Yba.func14, Yba.ntmps14
  go_wp2_with (go_at_call 15; refine (bsearch_one g _ hg).mono ?_; rintro e w' ⟨rfl, rfl⟩)
  go_ret
  exact ⟨rfl, rfl⟩

theorem partner_no (S RI n c Q q : Nat) (v : Value) (w : World) (hn : 1 ≤ n) (s4 : w.cell? ⟨S, 4, none⟩ = some (.slice (some ⟨RI, 0, none⟩) n c)) (r0 : w.cell? ⟨RI, 0, none⟩ = some (.slice none 0 0))
    (s7 : w.cell? ⟨S, 7, none⟩ = some (.slice (some ⟨Q, 0, none⟩) 1 q)) (q0 : w.cell? ⟨Q, 0, none⟩ = some v) :
    Calls Yba.prog 9 #[.pointer (some ⟨S, 0, none⟩), .int .i64 0, .int .i64 0] w fun e w' => e = .returned v ∧ w' = w := by
  go_enter Yba.func9, Yba.ntmps9
  go_wp2_with (go_at_call 14; refine (writeRead_no S RI n c _ hn s4 r0).mono ?_; rintro e w' ⟨rfl, rfl⟩)
  go_ret
  exact ⟨rfl, rfl⟩

theorem partner_yes (S RI n c g Q q : Nat) (v : Value) (w : World) (hn : 1 ≤ n) (s4 : w.cell? ⟨S, 4, none⟩ = some (.slice (some ⟨RI, 0, none⟩) n c)) (r0 : w.cell? ⟨RI, 0, none⟩ = some (.slice (some ⟨g, 0, none⟩) 1 1)) (hg : w.cell? ⟨g, 0, none⟩ = some (.int .i64 0))
    (s6 : w.cell? ⟨S, 6, none⟩ = some (.slice (some ⟨Q, 0, none⟩) 1 q)) (q0 : w.cell? ⟨Q, 0, none⟩ = some v) :
    Calls Yba.prog 9 #[.pointer (some ⟨S, 0, none⟩), .int .i64 0, .int .i64 0] w fun e w' => e = .returned v ∧ w' = w := by
  go_enter Yba.func9, Yba.ntmps9
  go_wp2_with (go_at_call 14; refine (writeRead_yes S RI n c g _ hn s4 r0 hg).mono ?_; rintro e w' ⟨rfl, rfl⟩)
  go_ret
  exact ⟨rfl, rfl⟩

theorem equal_zero (a1 a2 : Option Addr) (c1 c2 : Nat) (w : World) : Calls Yba.prog 7 #[.slice a1 0 c1, .slice a2 0 c2] w fun e w' => e = .returned (.bool true) ∧ w' = w := by
  go_enter Yba.func7, Yba.ntmps7
  go_wp2
  refine wp_loop_rounds 1 ?_
  rw [rounds_succ]
  go_wp2
  go_ret
  exact ⟨rfl, rfl⟩

set_option maxHeartbeats 1000000 in
theorem equal_rows (g1 o1 g2 o2 n c1 c2 : Nat) (f : Nat → Int) (w : World) (hn : n ≤ 9223372036854775807) (h1 : ∀ j, j < n → w.cell? ⟨g1, o1 + j, none⟩ = some (.int .i64 (f j))) (h2 : ∀ j, j < n → w.cell? ⟨g2, o2 + j, none⟩ = some (.int .i64 (f j))) :
    Calls Yba.prog 7 #[.slice (some ⟨g1, o1, none⟩) n c1, .slice (some ⟨g2, o2, none⟩) n c2] w fun e w' => e = .returned (.bool true) ∧ ∃ q, w' = w.drewN q := by
  go_enter Yba.func7, Yba.ntmps7
  go_wp2
  go_loopw [13] (fun i wx => ∃ (m q : Nat), m ≤ n ∧ i = .int .i64 m ∧ wx = w.drewN q) (fun i _ => n - (intOf i).toNat)
  case atStart => exact ⟨0, 0, Nat.zero_le _, rfl, rfl⟩
  case round =>
    obtain ⟨m, q, hm, rfl, rfl⟩ := hrel
    by_cases hlm : m < n
    · have d1 := h1 m hlm
      have d2 := h2 m hlm
      go_wp2
      go_quiet (fail)
      go_wp2
      go_roundw
      case rel => exact ⟨m + 1, _, by omega, by go_num, rfl⟩
      case measure => simp [intOf]; omega
    · go_wp2
      go_ret
      exact ⟨rfl, _, rfl⟩
end Go.Proofs.Ybulkbhpq
