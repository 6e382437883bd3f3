/- LawS2928AExact (3), from its head. -/
import Derived.Test.YbulkbhpqDoorLawA
import Derived.Test.YbulkbhpqDoorP1
import Derived.Deep.Cut
namespace Go.Proofs.YbulkbhpqDoor
open Go.RowKit Plain
set_option linter.unusedVariables false
set_option linter.unusedSimpArgs false
attribute [local go_sem] alloc_drewN setCell_drewN

theorem boxes (ta : Nat → Option Addr) (tn tc : Nat → Nat) (sa : Nat → Int) (sf : Nat → Bool) (w : World) : BoxAt ta tn tc sa sf w.heap.size (((w.alloc (.cells #[.slice (ta 0) (tn 0) (tc 0), .slice (ta 1) (tn 1) (tc 1), .slice (ta 2) (tn 2) (tc 2), .slice (ta 3) (tn 3) (tc 3)] 24)).alloc (.cells #[.int .i16 (sa 0), .int .i16 (sa 1), .int .i16 (sa 2), .int .i16 (sa 3)] 26)).alloc (.cells #[.bool (sf 0), .bool (sf 1), .bool (sf 2), .bool (sf 3)] 27)) ∧ Below w.heap.size w (((w.alloc (.cells #[.slice (ta 0) (tn 0) (tc 0), .slice (ta 1) (tn 1) (tc 1), .slice (ta 2) (tn 2) (tc 2), .slice (ta 3) (tn 3) (tc 3)] 24)).alloc (.cells #[.int .i16 (sa 0), .int .i16 (sa 1), .int .i16 (sa 2), .int .i16 (sa 3)] 26)).alloc (.cells #[.bool (sf 0), .bool (sf 1), .bool (sf 2), .bool (sf 3)] 27)) := by
  refine ⟨⟨?_, ?_, ?_⟩, ?_⟩
  · exact ((World.rowIs_alloc w #[.slice (ta 0) (tn 0) (tc 0), .slice (ta 1) (tn 1) (tc 1), .slice (ta 2) (tn 2) (tc 2), .slice (ta 3) (tn 3) (tc 3)] 24 (fun x => .slice (ta x) (tn x) (tc x)) (fun i hi => by
    match i with
    | 0 | 1 | 2 | 3 => rfl
    | n + 4 => simp at hi; omega)).alloc _).alloc _
  · have := (World.rowIs_alloc (w.alloc (.cells #[.slice (ta 0) (tn 0) (tc 0), .slice (ta 1) (tn 1) (tc 1), .slice (ta 2) (tn 2) (tc 2), .slice (ta 3) (tn 3) (tc 3)] 24)) #[.int .i16 (sa 0), .int .i16 (sa 1), .int .i16 (sa 2), .int .i16 (sa 3)] 26 (fun x => .int .i16 (sa x)) (fun i hi => by
    match i with
    | 0 | 1 | 2 | 3 => rfl
    | n + 4 => simp at hi; omega)).alloc (.cells #[.bool (sf 0), .bool (sf 1), .bool (sf 2), .bool (sf 3)] 27)
    rw [World.size_alloc] at this
    exact this
  · have := World.rowIs_alloc ((w.alloc (.cells #[.slice (ta 0) (tn 0) (tc 0), .slice (ta 1) (tn 1) (tc 1), .slice (ta 2) (tn 2) (tc 2), .slice (ta 3) (tn 3) (tc 3)] 24)).alloc (.cells #[.int .i16 (sa 0), .int .i16 (sa 1), .int .i16 (sa 2), .int .i16 (sa 3)] 26)) #[.bool (sf 0), .bool (sf 1), .bool (sf 2), .bool (sf 3)] 27 (fun x => .bool (sf x)) (fun i hi => by
    match i with
    | 0 | 1 | 2 | 3 => rfl
    | n + 4 => simp at hi; omega)
    rw [World.size_alloc, World.size_alloc] at this
    exact this
  · exact (((Below.refl _ w).alloc (Nat.le_refl _) _).alloc (by simp) _).alloc (by simp; omega) _

set_option maxHeartbeats 8000000 in
set_option maxRecDepth 100000 in
theorem law_any (aw : Option Addr) (nw cw wbk wo : Nat) (ww : Nat → Nat) (ar : Option Addr) (nr cr rb ro : Nat) (wrt : Nat → Bool) (rat : Nat → Nat) (ia : Nat → Option Addr) (ni ic qb qo : Nat → Nat) (z : Nat → Nat → Nat)
    (ta : Nat → Option Addr) (tn tc tb to : Nat → Nat) (tz : Nat → Nat → Nat) (sa : Nat → Int) (sf : Nat → Bool) (w : World)
    (hin : CIn aw nw wbk wo ww ar nr rb ro wrt rat ia ni ic qb qo z ta tn tb to tz sa w) :
    Calls Ybad.prog 3 #[.slice aw nw cw, .slice ar nr cr, .agg #[.slice (ta 0) (tn 0) (tc 0), .slice (ta 1) (tn 1) (tc 1), .slice (ta 2) (tn 2) (tc 2), .slice (ta 3) (tn 3) (tc 3)], .agg #[.int .i16 (sa 0), .int .i16 (sa 1), .int .i16 (sa 2), .int .i16 (sa 3)], .agg #[.bool (sf 0), .bool (sf 1), .bool (sf 2), .bool (sf 3)]] w (fun e w' => e = .returned (.bool true) ∧ Below w.heap.size w w') := by
  have HI := hideR hin
  clear hin
  have hbx3 := boxes ta tn tc sa sf w
  have HBX := hideR hbx3.1
  have hbB := hbx3.2
  clear hbx3
  by_cases hnw : nw ≤ 1024
  · have d1 : decide (1024 < (nw : Int)) = false := by simp; omega
    by_cases hnr : nr ≤ 1024
    · have d2 : decide (1024 < (nr : Int)) = false := by simp; omega
      go_enter Ybad.func3, Ybad.ntmps3
      go_upto_region 4 with fail
      generalize (((w.alloc (.cells #[.slice (ta 0) (tn 0) (tc 0), .slice (ta 1) (tn 1) (tc 1), .slice (ta 2) (tn 2) (tc 2), .slice (ta 3) (tn 3) (tc 3)] 24)).alloc (.cells #[.int .i16 (sa 0), .int .i16 (sa 1), .int .i16 (sa 2), .int .i16 (sa 3)] 26)).alloc (.cells #[.bool (sf 0), .bool (sf 1), .bool (sf 2), .bool (sf 3)] 27)) = wB at *
      go_loopw [61] (fun i wx => ∃ k : Nat, k ≤ nr ∧ i = .int .i64 k ∧ Hid (∀ j, j < k → ni j ≤ 1024) ∧ Below wB.heap.size wB wx) (fun i _ => nr - (intOf i).toNat)
      case atStart => exact ⟨0, by omega, rfl, hideR (fun j hj => by omega), Below.refl _ _⟩
      case round =>
        obtain ⟨k, hk, rfl, HN, hb⟩ := hrel
        have hbwx : Below w.heap.size w wr := hbB.trans (hb.mono hbB.size)
        by_cases hlt : k < nr
        · obtain rfl := HI.out.rp (by omega)
          have i1 : (k : Int) < (nr : Int) := by omega
          have c0 := kept hbwx (HI.out.r0 k hlt)
          have c1 := kept hbwx (HI.out.r1 k hlt).1
          have c2 := kept hbwx (HI.out.r2 k hlt)
          obtain ⟨A, hA⟩ : ∃ A, A = ia k := ⟨_, rfl⟩
          rw [← hA] at c2
          clear hA
          by_cases h3 : ni k ≤ 1024
          · have d3 : decide (1024 < (ni k : Int)) = false := by simp; omega
            have HN2 : Hid (∀ j, j < k + 1 → ni j ≤ 1024) := hideR (fun j hj => by
              by_cases e : j = k
              · subst e; exact h3
              · exact HN.out j (by omega))
            have hb2 : ∀ o, Below wB.heap.size wB (wr.alloc o) := fun o => hb.alloc hb.size o
            clear HN
            go_wp2
            go_roundw
            case rel => exact ⟨k + 1, by omega, by go_num, HN2, hb2 _⟩
            case measure => simp [intOf]; omega
          · have d3 : decide (1024 < (ni k : Int)) = true := by simp; omega
            have hb2 : ∀ o, Below w.heap.size w (wr.alloc o) := fun o => hbwx.alloc hbwx.size o
            go_wp2
            go_ret
            exact ⟨rfl, hb2 _⟩
        · obtain rfl : k = nr := by omega
          obtain ⟨wC, hwC⟩ : ∃ x, x = wr := ⟨_, rfl⟩
          subst hwC
          have HBC := hideR (HBX.out.below hb)
          clear HBX hb hbB
          go_upto_region 10 with fail
          go_loopw [13] (fun i wx => ∃ j : Nat, j ≤ 4 ∧ i = .int .i64 j ∧ Hid (∀ x, x < j → tn x ≤ 1024) ∧ wx = wC) (fun i _ => 4 - (intOf i).toNat)
          case atStart => exact ⟨0, by omega, rfl, hideR (fun j hj => by omega), rfl⟩
          case round =>
            obtain ⟨j, hj, rfl, HT, rfl⟩ := hrel
            by_cases hltj : j < 4
            · have i1 : (j : Int) < 4 := by omega
              have cw : wr.cell? ⟨w.heap.size, j, none⟩ = some (.slice (ta j) (tn j) (tc j)) := HBC.out.t.cell hltj
              by_cases h3 : tn j ≤ 1024
              · have d3 : decide (1024 < (tn j : Int)) = false := by simp; omega
                have HT2 : Hid (∀ x, x < j + 1 → tn x ≤ 1024) := hideR (fun x hx => by
                  by_cases e : x = j
                  · subst e; exact h3
                  · exact HT.out x (by omega))
                clear HT
                go_wp2
                go_roundw
                case rel => exact ⟨j + 1, by omega, by go_num, HT2, trivial⟩
                case measure => simp [intOf]; omega
              · have d3 : decide (1024 < (tn j : Int)) = true := by simp; omega
                go_wp2
                go_ret
                exact ⟨rfl, hbwx⟩
            · obtain rfl : j = 4 := by omega
              go_upto_region 14 with fail
              exact law_p1 aw nw cw wbk wo ww ar k cr rb ro wrt rat ia ni ic qb qo z ta tn tc tb to tz sa sf w HI hnw hnr HN HT wr HBC hbwx _ (by assumption)
    · have d2 : decide (1024 < (nr : Int)) = true := by simp; omega
      go_enter Ybad.func3, Ybad.ntmps3
      go_wp2
      go_ret
      exact ⟨rfl, hbB⟩
  · have d1 : decide (1024 < (nw : Int)) = true := by simp; omega
    go_enter Ybad.func3, Ybad.ntmps3
    go_wp2
    go_ret
    exact ⟨rfl, hbB⟩
end Go.Proofs.YbulkbhpqDoor
