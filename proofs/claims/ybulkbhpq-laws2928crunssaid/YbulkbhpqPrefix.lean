/- The binary search over a run (function 10) at the two closures of unorderedOnRuns. -/
import Derived.Test.YbulkbhpqLeaves
import Derived.WalkKit
import Derived.Outline
namespace Go.Proofs.Ybulkbhpq
open Go.RowKit

/-- what a closure of unorderedOnRuns reads: the boxed row, the boxed pointer to the tables, the tables' span, the row's cell. -/
structure ClosAt (b1 b2 LB CT W cW ch : Nat) (lt : Int) (w : World) : Prop where
  c1 : w.cell? ⟨b1, 0, none⟩ = some (.slice (some ⟨LB, 0, none⟩) W cW)
  c2 : w.cell? ⟨b2, 0, none⟩ = some (.pointer (some ⟨CT, 0, none⟩))
  t0 : w.cell? ⟨CT, 0, none⟩ = some (.int .i64 0)
  t1 : w.cell? ⟨CT, 1, none⟩ = some (.int .i64 (W : Int))
  l : w.cell? ⟨LB, ch, none⟩ = some (.int .i32 lt)

theorem kept {w w' : World} (hb : Below w.heap.size w w') {b i : Nat} {v : Value} (h : w.cell? ⟨b, i, none⟩ = some v) : w'.cell? ⟨b, i, none⟩ = some v :=
  (hb.cell (p := ⟨b, i, none⟩) (World.block_lt_of_cell? w _ h)).trans h

theorem ClosAt.below {b1 b2 LB CT W cW ch : Nat} {lt : Int} {w w' : World} (h : ClosAt b1 b2 LB CT W cW ch lt w) (hb : Below w.heap.size w w') : ClosAt b1 b2 LB CT W cW ch lt w' :=
  ⟨kept hb h.c1, kept hb h.c2, kept hb h.t0, kept hb h.t1, kept hb h.l⟩

theorem pre_low {m t : Nat} {pos : Nat → Int} {x : Int} (mono : ∀ i j, i < j → j < m → pos i < pos j) (ht : t < m) (hp : pos t ≤ x) (k : Nat) (hk : k ≤ t) : pos k ≤ x := by
  by_cases e : k = t
  · rw [e]; exact hp
  · have := mono k t (by omega) ht; omega
theorem pre_high {m t : Nat} {pos : Nat → Int} {x : Int} (mono : ∀ i j, i < j → j < m → pos i < pos j) (hp : x < pos t) (k : Nat) (hk : t ≤ k) (hm : k < m) : x < pos k := by
  by_cases e : k = t
  · rw [e]; exact hp
  · have := mono t k (by omega) hm; omega

theorem pre_low2 {m t : Nat} {pos : Nat → Int} {x : Int} (mono : ∀ i j, i < j → j < m → pos i < pos j) (ht : t < m) (hp : pos t < x) (k : Nat) (hk : k ≤ t) : pos k < x := by
  by_cases e : k = t
  · rw [e]; exact hp
  · have := mono k t (by omega) ht; omega
theorem pre_high2 {m t : Nat} {pos : Nat → Int} {x : Int} (mono : ∀ i j, i < j → j < m → pos i < pos j) (hp : x ≤ pos t) (k : Nat) (hk : t ≤ k) (hm : k < m) : x ≤ pos k := by
  by_cases e : k = t
  · rw [e]; exact hp
  · have := mono t k (by omega) hm; omega

set_option maxHeartbeats 1000000 in
theorem prefix1_any (b1 b2 LB CT W cW ch RB m c : Nat) (pos : Nat → Int) (lt : Int) (w : World) (hch : ch < W) (hW : W ≤ 300) (hm : m ≤ 300)
    (hcl : ClosAt b1 b2 LB CT W cW ch lt w)
    (hc0 : ∀ k, k < m → w.cell? ⟨RB, k * 2, none⟩ = some (.int .i32 (ch : Int))) (hc1 : ∀ k, k < m → w.cell? ⟨RB, k * 2 + 1, none⟩ = some (.int .i32 (pos k)))
    (mono : ∀ i j, i < j → j < m → pos i < pos j) :
    Calls Yba.prog 10 #[.slice (some ⟨RB, 0, none⟩) m c, .func (.func 11) #[] #[.pointer (some ⟨b1, 0, none⟩), .pointer (some ⟨b2, 0, none⟩)]] w fun e w' => ∃ i : Nat, e = .returned (.int .i64 (i : Int)) ∧ i ≤ m ∧ (∀ k, k < i → pos k ≤ lt) ∧ (∀ k, i ≤ k → k < m → lt < pos k) ∧ Below w.heap.size w w' := by
  have HC := hideR hcl
  have HM := hideR mono
  clear hcl mono
  go_enter Yba.func10, Yba.ntmps10
  go_wp2
  go_loopw [5, 6] (fun lo hi wr => ∃ l h : Nat, l ≤ h ∧ h ≤ m ∧ lo = .int .i64 (l : Int) ∧ hi = .int .i64 (h : Int) ∧ Hid (∀ k, k < l → pos k ≤ lt) ∧ Hid (∀ k, h ≤ k → k < m → lt < pos k) ∧ Below w.heap.size w wr) (fun lo hi _ => (intOf hi - intOf lo).toNat)
  case atStart => exact ⟨0, m, Nat.zero_le _, Nat.le_refl _, rfl, rfl, fun k hk => absurd hk (Nat.not_lt_zero _), fun k h1 h2 => absurd h1 (by omega), Below.refl _ _⟩
  case round =>
    obtain ⟨l, h, hlh, hhm, rfl, rfl, HL, HR, hb⟩ := hrel
    by_cases hlt : l < h
    · have hmid : (l + h) / 2 < m := by omega
      have cm0 := kept hb (hc0 _ hmid)
      have cm1 := kept hb (hc1 _ hmid)
      have HC2 := hideR ((unhideR HC).below hb)
      by_cases hp : pos ((l + h) / 2) ≤ lt
      · have hd : decide (pos ((l + h) / 2) ≤ lt) = true := by simpa using hp
        go_wp2_with (go_at_call 11; refine (clos1_any b1 b2 LB CT W cW ch _ lt wr hch hW (unhideR HC2).c1 (unhideR HC2).c2 (unhideR HC2).t0 (unhideR HC2).t1 (unhideR HC2).l).mono ?_; rintro e w1 ⟨rfl, hb1⟩)
        go_roundw
        case rel => exact ⟨(l + h) / 2 + 1, h, by omega, hhm, by go_num, rfl, fun k hk => pre_low HM.out hmid hp k (by omega), HR, hb.trans (hb1.mono hb.size)⟩
        case measure => simp [intOf]; omega
      · have hd : decide (pos ((l + h) / 2) ≤ lt) = false := by simpa using hp
        go_wp2_with (go_at_call 11; refine (clos1_any b1 b2 LB CT W cW ch _ lt wr hch hW (unhideR HC2).c1 (unhideR HC2).c2 (unhideR HC2).t0 (unhideR HC2).t1 (unhideR HC2).l).mono ?_; rintro e w1 ⟨rfl, hb1⟩)
        go_roundw
        case rel => exact ⟨l, (l + h) / 2, by omega, by omega, rfl, by go_num, HL, fun k hk hkm => pre_high HM.out hp k hk hkm, hb.trans (hb1.mono hb.size)⟩
        case measure => simp [intOf]; omega
    · have e : l = h := by omega
      subst e
      go_wp2
      go_ret
      exact ⟨l, rfl, hhm, HL.out, HR.out, hb⟩
set_option maxHeartbeats 1000000 in
theorem prefix2_any (b1 b2 LB CT W cW ch RB m c : Nat) (pos : Nat → Int) (lt : Int) (w : World) (hch : ch < W) (hW : W ≤ 300) (hm : m ≤ 300)
    (hcl : ClosAt b1 b2 LB CT W cW ch lt w)
    (hc0 : ∀ k, k < m → w.cell? ⟨RB, k * 2, none⟩ = some (.int .i32 (ch : Int))) (hc1 : ∀ k, k < m → w.cell? ⟨RB, k * 2 + 1, none⟩ = some (.int .i32 (pos k)))
    (mono : ∀ i j, i < j → j < m → pos i < pos j) :
    Calls Yba.prog 10 #[.slice (some ⟨RB, 0, none⟩) m c, .func (.func 13) #[] #[.pointer (some ⟨b1, 0, none⟩), .pointer (some ⟨b2, 0, none⟩)]] w fun e w' => ∃ i : Nat, e = .returned (.int .i64 (i : Int)) ∧ i ≤ m ∧ (∀ k, k < i → pos k < lt) ∧ (∀ k, i ≤ k → k < m → lt ≤ pos k) ∧ Below w.heap.size w w' := by
  have HC := hideR hcl
  have HM := hideR mono
  clear hcl mono
  go_enter Yba.func10, Yba.ntmps10
  go_wp2
  go_loopw [5, 6] (fun lo hi wr => ∃ l h : Nat, l ≤ h ∧ h ≤ m ∧ lo = .int .i64 (l : Int) ∧ hi = .int .i64 (h : Int) ∧ Hid (∀ k, k < l → pos k < lt) ∧ Hid (∀ k, h ≤ k → k < m → lt ≤ pos k) ∧ Below w.heap.size w wr) (fun lo hi _ => (intOf hi - intOf lo).toNat)
  case atStart => exact ⟨0, m, Nat.zero_le _, Nat.le_refl _, rfl, rfl, fun k hk => absurd hk (Nat.not_lt_zero _), fun k h1 h2 => absurd h1 (by omega), Below.refl _ _⟩
  case round =>
    obtain ⟨l, h, hlh, hhm, rfl, rfl, HL, HR, hb⟩ := hrel
    by_cases hlt : l < h
    · have hmid : (l + h) / 2 < m := by omega
      have cm0 := kept hb (hc0 _ hmid)
      have cm1 := kept hb (hc1 _ hmid)
      have HC2 := hideR ((unhideR HC).below hb)
      by_cases hp : pos ((l + h) / 2) < lt
      · have hd : decide (pos ((l + h) / 2) < lt) = true := by simpa using hp
        go_wp2_with (go_at_call 13; refine (clos2_any b1 b2 LB CT W cW ch _ lt wr hch hW (unhideR HC2).c1 (unhideR HC2).c2 (unhideR HC2).t0 (unhideR HC2).t1 (unhideR HC2).l).mono ?_; rintro e w1 ⟨rfl, hb1⟩)
        go_roundw
        case rel => exact ⟨(l + h) / 2 + 1, h, by omega, hhm, by go_num, rfl, fun k hk => pre_low2 HM.out hmid hp k (by omega), HR, hb.trans (hb1.mono hb.size)⟩
        case measure => simp [intOf]; omega
      · have hd : decide (pos ((l + h) / 2) < lt) = false := by simpa using hp
        go_wp2_with (go_at_call 13; refine (clos2_any b1 b2 LB CT W cW ch _ lt wr hch hW (unhideR HC2).c1 (unhideR HC2).c2 (unhideR HC2).t0 (unhideR HC2).t1 (unhideR HC2).l).mono ?_; rintro e w1 ⟨rfl, hb1⟩)
        go_roundw
        case rel => exact ⟨l, (l + h) / 2, by omega, by omega, rfl, by go_num, HL, fun k hk hkm => pre_high2 HM.out hp k hk hkm, hb.trans (hb1.mono hb.size)⟩
        case measure => simp [intOf]; omega
    · have e : l = h := by omega
      subst e
      go_wp2
      go_ret
      exact ⟨l, rfl, hhm, HL.out, HR.out, hb⟩
end Go.Proofs.Ybulkbhpq
