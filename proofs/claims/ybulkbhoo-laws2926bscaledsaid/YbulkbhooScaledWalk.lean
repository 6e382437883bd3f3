/- The walk of kinds.LawS2926BScaled (function 4): it returns true, whatever the input. -/
import Derived.Test.YbulkbhooProg
import Derived.Test.YbulkbhooTickWalk
import Derived.WalkKit
import Derived.Outline
namespace Go.Proofs.Ybulkbhoo
open Go.RowKit

set_option maxHeartbeats 1000000 in
theorem scaled_walk (a0 : Int) (a1 : Int) (a2 : Int) (a3 : Bool) (w0 : (Lit.int .u32 a0).wf = true) (w1 : (Lit.int .u8 a1).wf = true) (w2 : (Lit.int .u8 a2).wf = true) (w : World) :
    Calls Yba.prog 4 #[.int .u32 a0, .int .u8 a1, .int .u8 a2, .bool a3] w fun e w' => e = .returned (.bool true) ∧ w' = w := by
  obtain ⟨h1, h2⟩ := bd_u32 w0
  obtain ⟨h3, h4⟩ := bd_u8 w1
  obtain ⟨h5, h6⟩ := bd_u8 w2
  clear w0 w1 w2
  have u1 : (Tick.td 9 1 == 9) = true := by rw [Tick.units.1]; rfl
  have u2 : (Tick.td 9 1000 == 6) = true := by rw [Tick.units.2.1]; rfl
  have u3 : (Tick.td 9 1000000 == 3) = true := by rw [Tick.units.2.2.1]; rfl
  have u4 : (Tick.td 9 1000000000 == 0) = true := by rw [Tick.units.2.2.2]; rfl
  obtain ⟨B, HB, hb1, hb2, HL⟩ : ∃ B : Int, Hid (B = if a3 then -(a0 % 100000000 * 10 + a1 % 9 + 1) else a0 % 100000000 * 10 + a1 % 9 + 1) ∧ -999999999 ≤ B ∧ B ≤ 999999999 ∧ Hid (B.tmod 10 ≠ 0) := by
    refine ⟨_, rfl, ?_, ?_, ?_⟩
    · split <;> omega
    · split <;> omega
    · show _ ≠ (0 : Int)
      split
      · exact Tick.last_neg _ _ (by omega) (by omega) (by omega)
      · exact Tick.last_pos _ _ (by omega) (by omega) (by omega)
  cases a3
  all_goals
    go_enter Yba.func4, Yba.ntmps4
    go_wp2
    go_loop [9, 11] (fun t i => ∃ (j : Nat) (z : Int), (j : Int) ≤ a2 % 10 ∧ i = .int .i64 j ∧ t = .int .i64 z ∧ Hid (z = B * (((10 : Nat) ^ j : Nat) : Int))) (fun _ i => (10 - intOf i).toNat)
    case atStart => exact ⟨0, _, by omega, rfl, rfl, by have := HB.out; show _ = _; rw [this]; simp⟩
    case round =>
      obtain ⟨j, z, hj, rfl, rfl, HZ⟩ := hrel
      by_cases hlt : (j : Int) < a2 % 10
      · have hz : -100000000000000000 ≤ z ∧ z ≤ 100000000000000000 := by
          have e1 := HZ.out
          have e2 := Tick.scale_bd B hb1 hb2 (j + 1) (by omega)
          have e3 := Tick.scale_step B j
          rw [← e3, ← e1] at e2
          omega
        obtain ⟨hz1, hz2⟩ := hz
        have HZ2 : Hid (z * 10 = B * (((10 : Nat) ^ (j + 1) : Nat) : Int)) := by have e1 := HZ.out; show _ = _; rw [e1, Tick.scale_step]
        go_wp2
        go_round
        case rel => exact ⟨j + 1, z * 10, by omega, by go_num, rfl, HZ2⟩
        case measure => simp [intOf]; omega
      · have hj9 : j ≤ 9 := by omega
        have hz : -1000000000000000000 ≤ z ∧ z ≤ 1000000000000000000 := by
          have e1 := HZ.out
          rw [e1]; exact Tick.scale_bd B hb1 hb2 j hj9
        obtain ⟨hz1, hz2⟩ := hz
        have ht : (Tick.td 9 z != 9 - a2 % 10) = false := by
          have e1 := HZ.out
          have e2 := Tick.td_scaled B HL.out j 9 hj9
          rw [e1, e2]; simp; omega
        go_wp2_with (go_at_call 6; refine (tick_any _ _ (by omega) (by omega)).mono ?_; rintro e w' ⟨rfl, rfl⟩)
        go_ret
        exact ⟨rfl, rfl⟩
end Go.Proofs.Ybulkbhoo
