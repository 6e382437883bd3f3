/- The walks of kinds.tickDigits (function 6) and kinds.zzs2926bmodel (function 7): each computes a plain function (YbulkbhooTick.lean). -/
import Derived.Test.YbulkbhooProg
import Derived.Test.YbulkbhooTick
import Derived.WalkKit
import Derived.Outline
namespace Go.Proofs.Ybulkbhoo
open Go.RowKit

theorem ret_int {k : IntKind} {a b : Int} (h : a = b) : Ending.returned (.int k a) = .returned (.int k b) := by rw [h]

theorem bd_i64 {n : Int} (h : (Lit.int .i64 n).wf = true) : -9223372036854775808 ≤ n ∧ n ≤ 9223372036854775807 := by
  simp [Lit.wf, IntKind.min, IntKind.max, IntKind.signed, IntKind.bits] at h
  omega
theorem bd_u32 {n : Int} (h : (Lit.int .u32 n).wf = true) : 0 ≤ n ∧ n ≤ 4294967295 := by
  simp [Lit.wf, IntKind.min, IntKind.max, IntKind.signed, IntKind.bits] at h
  omega
theorem bd_u8 {n : Int} (h : (Lit.int .u8 n).wf = true) : 0 ≤ n ∧ n ≤ 255 := by
  simp [Lit.wf, IntKind.min, IntKind.max, IntKind.signed, IntKind.bits] at h
  omega

set_option maxHeartbeats 400000 in
theorem tick_any (t : Int) (w : World) (h1 : -9223372036854775808 ≤ t) (h2 : t ≤ 9223372036854775807) :
    Calls Yba.prog 6 #[.int .i64 t] w fun e w' => e = .returned (.int .i64 (Tick.td 9 t)) ∧ w' = w := by
  go_enter Yba.func6, Yba.ntmps6
  go_wp2
  go_loop [3, 4] (fun g x => ∃ (d : Nat) (z : Int), d ≤ 9 ∧ g = .int .i64 d ∧ x = .int .i64 z ∧ -9223372036854775808 ≤ z ∧ z ≤ 9223372036854775807 ∧ Tick.td d z = Tick.td 9 t) (fun g _ => (intOf g).toNat)
  case atStart => exact ⟨9, t, Nat.le_refl _, rfl, rfl, h1, h2, rfl⟩
  case round =>
    obtain ⟨d, z, hd, rfl, rfl, hz1, hz2, htd⟩ := hrel
    have H : Hid (Tick.td d z = Tick.td 9 t) := htd
    clear htd
    obtain ⟨hq1, hq2⟩ := Tick.tdiv10_bd z hz1 hz2
    by_cases hm : z.tmod 10 = 0
    · by_cases h0 : d = 0
      · subst h0
        have hmb : (z.tmod 10 == 0) = true := by simp [hm]
        go_wp2
        go_ret
        exact ⟨ret_int (by rw [← H.out]; rfl), rfl⟩
      · obtain ⟨e, rfl⟩ : ∃ e, d = e + 1 := ⟨d - 1, by omega⟩
        have HH : Hid (Tick.td e (z.tdiv 10) = Tick.td 9 t) := by have := H.out; rw [Tick.td, if_pos hm] at this; exact this
        have hmb : (z.tmod 10 == 0) = true := by simp [hm]
        clear hm
        go_wp2
        go_round
        case rel => exact ⟨e, z.tdiv 10, by omega, rfl, rfl, hq1, hq2, HH.out⟩
        case measure => simp [intOf]
    · have hmb : (z.tmod 10 == 0) = false := by simp [hm]
      have HH : Hid (Tick.td d z = d) := Tick.td_stop d z hm
      clear hm
      go_wp2
      go_ret
      exact ⟨ret_int (by rw [← H.out, HH.out]), rfl⟩

set_option maxHeartbeats 400000 in
theorem model_any (t : Int) (w : World) :
    Calls Yba.prog 7 #[.int .i64 t] w fun e w' => e = .returned (.int .i64 (Tick.mdl 9 t)) ∧ w' = w := by
  go_enter Yba.func7, Yba.ntmps7
  go_wp2
  go_loop [3, 4] (fun p x => ∃ (k : Nat) (q : Int), k ≤ 9 ∧ x = .int .i64 k ∧ p = .int .i64 q ∧ Hid (q = (((10 : Nat) ^ k : Nat) : Int)) ∧ Hid (Tick.mdl k t = Tick.mdl 9 t)) (fun _ x => (intOf x).toNat)
  case atStart => exact ⟨9, 1000000000, Nat.le_refl _, rfl, rfl, rfl, rfl⟩
  case round =>
    obtain ⟨k, q, hk, rfl, rfl, HQ, HM⟩ := hrel
    have hq : 1 ≤ q ∧ q ≤ 1000000000 := by rw [HQ.out]; exact Tick.pow_bd k hk
    obtain ⟨hq1, hq2⟩ := hq
    by_cases h0 : k = 0
    · subst h0
      go_wp2
      go_ret
      exact ⟨ret_int (by rw [← HM.out]; rfl), rfl⟩
    · obtain ⟨e, rfl⟩ : ∃ e, k = e + 1 := ⟨k - 1, by omega⟩
      by_cases hm : t.tmod q = 0
      · have HR : Hid (Tick.mdl (e + 1) t = 9 - ((e + 1 : Nat) : Int)) := by
          have := HQ.out; rw [this] at hm; show Tick.mdl (e + 1) t = _; rw [Tick.mdl, if_pos hm]
        have hmb : (t.tmod q == 0) = true := by simp [hm]
        clear hm
        go_wp2
        go_ret
        exact ⟨ret_int (by rw [← HM.out, HR.out]; omega), rfl⟩
      · have HR : Hid (Tick.mdl (e + 1) t = Tick.mdl e t) := by
          have := HQ.out; rw [this] at hm; show Tick.mdl (e + 1) t = _; rw [Tick.mdl, if_neg hm]
        have hmb : (t.tmod q == 0) = false := by simp [hm]
        clear hm
        have HQ2 : Hid (q / 10 = (((10 : Nat) ^ e : Nat) : Int)) := by rw [HQ.out]; exact Tick.pow_div e
        go_wp2
        go_round
        case rel => exact ⟨e, q / 10, by omega, rfl, rfl, HQ2, by rw [← HR.out]; exact HM⟩
        case measure => simp [intOf]
end Go.Proofs.Ybulkbhoo
