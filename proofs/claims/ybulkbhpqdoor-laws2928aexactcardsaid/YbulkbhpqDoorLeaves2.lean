/- slices.BinarySearchFunc (23) at writeAfter's closure, and writeAfter (11). -/
import Derived.Test.YbulkbhpqDoorLeaves
import Derived.Deep.Cut
namespace Go.Proofs.YbulkbhpqDoor
open Go.RowKit Plain
set_option linter.unusedVariables false
set_option linter.unusedSimpArgs false

theorem bs_low {n t : Nat} {s : Nat → Nat} {x : Int} (mono : ∀ i j, i ≤ j → j < n → s i ≤ s j) (ht : t < n) (hp : (s t : Int) < x) (k : Nat) (hk : k ≤ t) : (s k : Int) < x := by
  have := mono k t hk ht; omega
theorem bs_high {n t : Nat} {s : Nat → Nat} {x : Int} (mono : ∀ i j, i ≤ j → j < n → s i ≤ s j) (hp : x ≤ (s t : Int)) (k : Nat) (hk : t ≤ k) (hm : k < n) : x ≤ (s k : Int) := by
  have := mono t k hk hm; omega

set_option maxHeartbeats 2000000 in
theorem bsf_any (a : Option Addr) (n c wb : Nat) (s : Nat → Nat) (at' : Int) (w : World) (hn : n ≤ 1024) (hp : 0 < n → a = some ⟨wb, 0, none⟩)
    (c0 : ∀ k, k < n → w.cell? ⟨wb, k * 3, none⟩ = some (.int .i64 0)) (c1 : ∀ k, k < n → w.cell? ⟨wb, k * 3 + 1, none⟩ = some (.int .i64 (s k : Int))) (c2 : ∀ k, k < n → w.cell? ⟨wb, k * 3 + 2, none⟩ = some (.int .i64 (-1)))
    (hs : ∀ k, k < n → s k ≤ 255) (mono : ∀ i j, i ≤ j → j < n → s i ≤ s j) (h2 : -40000 ≤ at') (h3 : at' ≤ 40000) :
    Calls Ybad.prog 23 #[.slice a n c, .int .i64 at', .func (.func 24) #[] #[]] w fun e w' => ∃ (k : Nat) (f : Bool), e = .returned (.tuple #[.int .i64 (k : Int), .bool f]) ∧ k ≤ n ∧ (∀ j, j < k → (s j : Int) < at') ∧ (k < n → at' ≤ (s k : Int)) ∧ Below w.heap.size w w' := by
  have H0 := hideR c0
  have H1 := hideR c1
  have H2 := hideR c2
  have HS := hideR hs
  have HM := hideR mono
  clear c0 c1 c2 hs mono
  go_enter Ybad.func23, Ybad.ntmps23
  go_wp2
  go_loopw [9, 10] (fun lo hi wr => ∃ l h : Nat, l ≤ h ∧ h ≤ n ∧ lo = .int .i64 (l : Int) ∧ hi = .int .i64 (h : Int) ∧ Hid (∀ k, k < l → (s k : Int) < at') ∧ Hid (∀ k, h ≤ k → k < n → at' ≤ (s k : Int)) ∧ Below w.heap.size w wr) (fun lo hi _ => (intOf hi).toNat - (intOf lo).toNat)
  case atStart => exact ⟨0, n, Nat.zero_le _, Nat.le_refl _, rfl, rfl, fun k hk => absurd hk (Nat.not_lt_zero _), fun k h1 h2 => absurd h1 (by omega), Below.refl _ _⟩
  case round =>
    obtain ⟨l, h, hlh, hhm, rfl, rfl, HL, HR, hb⟩ := hrel
    by_cases hlt : l < h
    · have hmid : (l + h) / 2 < n := by omega
      obtain rfl := hp (by omega)
      have d0 := kept hb (H0.out _ hmid)
      have d1 := kept hb (H1.out _ hmid)
      have d2 := kept hb (H2.out _ hmid)
      have hs1 := HS.out _ hmid
      by_cases hp' : (s ((l + h) / 2) : Int) < at'
      · have t1 : decide ((s ((l + h) / 2) : Int) - at' < 0) = true := by simp; omega
        go_wp2_with (go_at_call 24; refine (dist _ _ _ _ _ (by omega) (by omega) h2 h3).mono ?_; rintro e w1 ⟨rfl, hb1⟩)
        go_roundw
        case rel => exact ⟨(l + h) / 2 + 1, h, by omega, hhm, by go_num, rfl, hideR (fun k hk => bs_low HM.out hmid hp' k (by omega)), HR, hb.trans (hb1.mono hb.size)⟩
        case measure => simp [intOf]; omega
      · have t1 : decide ((s ((l + h) / 2) : Int) - at' < 0) = false := by simp; omega
        go_wp2_with (go_at_call 24; refine (dist _ _ _ _ _ (by omega) (by omega) h2 h3).mono ?_; rintro e w1 ⟨rfl, hb1⟩)
        go_roundw
        case rel => exact ⟨l, (l + h) / 2, by omega, by omega, rfl, by go_num, HL, hideR (fun k hk hkm => bs_high HM.out (by omega) k hk hkm), hb.trans (hb1.mono hb.size)⟩
        case measure => simp [intOf]; omega
    · have e : l = h := by omega
      subst e
      by_cases hl : l < n
      · obtain rfl := hp (by omega)
        have d0 := kept hb (H0.out _ hl)
        have d1 := kept hb (H1.out _ hl)
        have d2 := kept hb (H2.out _ hl)
        have hs1 := HS.out _ hl
        have i1 : (l : Int) < (n : Int) := by omega
        go_wp2_with (go_at_call 24; refine (dist _ _ _ _ _ (by omega) (by omega) h2 h3).mono ?_; rintro e w1 ⟨rfl, hb1⟩)
        go_ret2
        exact ⟨l, _, rfl, hhm, HL.out, fun h => HR.out l (Nat.le_refl _) h, hb.trans (hb1.mono hb.size)⟩
      · have t1 : decide ((l : Int) < (n : Int)) = false := by simp; omega
        go_wp2
        go_ret2
        exact ⟨l, _, rfl, hhm, HL.out, fun h => absurd h hl, hb⟩

set_option maxHeartbeats 2000000 in
theorem writeAfter_any (a : Option Addr) (n c wb ib q : Nat) (s : Nat → Nat) (at' : Int) (w : World) (hn : n ≤ 1024) (hp : 0 < n → a = some ⟨wb, 0, none⟩) (hi : w.cell? ⟨ib, q + 1, none⟩ = some (.slice a n c))
    (c0 : ∀ k, k < n → w.cell? ⟨wb, k * 3, none⟩ = some (.int .i64 0)) (c1 : ∀ k, k < n → w.cell? ⟨wb, k * 3 + 1, none⟩ = some (.int .i64 (s k : Int))) (c2 : ∀ k, k < n → w.cell? ⟨wb, k * 3 + 2, none⟩ = some (.int .i64 (-1)))
    (hs : ∀ k, k < n → s k ≤ 255) (mono : ∀ i j, i ≤ j → j < n → s i ≤ s j) (h2 : -40000 ≤ at') (h3 : at' ≤ 40000) :
    Calls Ybad.prog 11 #[.pointer (some ⟨ib, q, none⟩), .int .i64 at'] w fun e w' => ∃ k : Nat, e = .returned (.int .i64 (if k = n then 2147483647 else (s k : Int))) ∧ k ≤ n ∧ (∀ j, j < k → (s j : Int) < at') ∧ (k < n → at' ≤ (s k : Int)) ∧ Below w.heap.size w w' := by
  have H1 := hideR c1
  have HB := hideR (bsf_any a n c wb s at' w hn hp c0 c1 c2 hs mono h2 h3)
  clear c0 c1 c2 hs mono
  go_enter Ybad.func11, Ybad.ntmps11
  go_upto_region 2 with (go_at_call 23; refine HB.out.mono ?_; rintro e w1 ⟨k, f, rfl, hk, hlow, hat, hb⟩)
  have hi1 := kept hb hi
  by_cases hkn : k = n
  · subst hkn
    go_wp2
    go_ret
    exact ⟨k, by rw [if_pos rfl]; rfl, hk, hlow, hat, hb⟩
  · obtain rfl := hp (by omega)
    have d1 := kept hb (H1.out k (by omega))
    have i1 : (k : Int) < (n : Int) := by omega
    have t1 : ((k : Int) == (n : Int)) = false := by simp; omega
    go_wp2
    go_ret
    exact ⟨k, by rw [if_neg hkn]; rfl, hk, hlow, hat, hb⟩
end Go.Proofs.YbulkbhpqDoor
