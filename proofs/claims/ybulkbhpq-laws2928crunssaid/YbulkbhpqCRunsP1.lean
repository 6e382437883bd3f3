/- LawS2928CRuns (4), its first part, and the whole: the chains and their places. -/
import Derived.Test.YbulkbhpqCRunsP2
import Derived.Deep.Cut
namespace Go.Proofs.Ybulkbhpq
open Go.RowKit
set_option linter.unusedVariables false
set_option linter.unusedSimpArgs false
attribute [local go_sem] alloc_drewN setCell_drewN

set_option maxHeartbeats 8000000 in
set_option maxRecDepth 100000 in
theorem cruns_main (ap : Option Addr) (nc cpc pb po : Nat) (A : Nat → Option Addr) (M C qb qo : Nat → Nat) (Z : Nat → Nat → Nat) (al : Option Addr) (nl cl lb lo : Nat) (lz : Nat → Int) (ae : Option Addr) (ne ce eb eo : Nat) (ez : Nat → Int)
    (ar : Option Addr) (nr cr rb ro : Nat) (rz : Nat → Int) (aq : Option Addr) (np cq qqb qqo : Nat) (pz : Nat → Int) (above : Int) (wrd : Bool) (w : World)
    (hin : CIn ap nc pb po A M C qb qo Z al nl lb lo lz ae ne eb eo ez ar nr rb ro rz aq np qqb qqo pz w)
    (hnc : nc ≤ 300) (hnr : nr ≤ 4096) (hnp : np ≤ 4096) (hM : ∀ c, c < nc → M c ≤ 9223372036854775807) (hnl : nl ≤ 9223372036854775807) (hne : ne ≤ 9223372036854775807)
    (W : Nat) (hWe : (if (1 : Int) < (nc : Int) then (nc : Int) else 1) = (W : Int)) (hW : 1 ≤ W ∧ nc ≤ W ∧ W ≤ 300) :
    Calls Yba.prog 4 #[.agg #[.slice ap nc cpc, .slice al nl cl, .slice ae ne ce, .slice ar nr cr, .int .i64 above, .bool wrd, .slice aq np cq]] w fun e w' => e = .returned (.bool true) ∧ Below w.heap.size w w' := by
  have HI := hideR hin
  have HM := hideR hM
  clear hin hM
  have d1 : decide (300 < (nc : Int)) = false := by simp; omega
  have d2 : decide (4096 < (nr : Int)) = false := by simp; omega
  have d3 : decide (4096 < (np : Int)) = false := by simp; omega
  have hmk36 := run_make_row' (P := Yba.prog) 36 28 (.slice none 0 0) 24 Yba.underlying36 info28 rfl .i64 .i64 nc (by omega) (by omega)
  have hmk37 := run_make_row' (P := Yba.prog) 37 32 (.slice none 0 0) 24 Yba.underlying37 info32 rfl .i64 .i64 nc (by omega) (by omega)
  go_enter Yba.func4, Yba.ntmps4
  go_wp2
  go_loopw [3] (fun i wr => ∃ c : Nat, c ≤ nc ∧ i = .int .i64 c ∧ Hid (∀ j, j < c → M j ≤ 300) ∧ wr = w.alloc (.cells #[.slice ap nc cpc, .slice al nl cl, .slice ae ne ce, .slice ar nr cr, .int .i64 above, .bool wrd, .slice aq np cq] 34)) (fun i _ => nc - (intOf i).toNat)
  case atStart => exact ⟨0, Nat.zero_le _, rfl, fun j hj => absurd hj (Nat.not_lt_zero _), rfl⟩
  case round =>
    obtain ⟨c, hc, rfl, HMc, rfl⟩ := hrel
    by_cases hlt : c < nc
    · obtain rfl := HI.out.hp (by omega)
      have cp := old_cell (HI.out.cp c hlt)
      have hMc := HM.out c hlt
      by_cases h3 : 300 < M c
      · go_wp2
        go_ret
        exact ⟨rfl, (Below.refl _ _).alloc (Nat.le_refl _) _⟩
      · go_wp2
        go_roundw
        case rel => exact ⟨c + 1, by omega, by go_num, fun j hj => le_step HMc.out (by omega) j hj, trivial⟩
        case measure => simp [intOf]; omega
    · have e : nc = c := by omega
      subst e
      go_wp2
      generalize hW1 : w.alloc (.cells #[.slice ap nc cpc, .slice al nl cl, .slice ae ne ce, .slice ar nr cr, .int .i64 above, .bool wrd, .slice aq np cq] 34) = W1
      have HW1 := hideR hW1
      have hs1 : W1.heap.size = w.heap.size + 1 := by rw [← hW1]; simp
      have HP0 := hideR (ph2_start W1 w.heap.size nc M Z hs1)
      have hB0 : Below (w.heap.size + 1) W1 ((W1.alloc (.cells (madeCells #[.slice none 0 0] nc) 28)).alloc (.cells (madeCells #[.slice none 0 0] nc) 32)) := ((Below.refl _ W1).alloc (by omega) _).alloc (by simp; omega) _
      clear hW1 hs1 hmk36 hmk37
      go_loopw [8, 9] (fun nn i wr => ∃ c : Nat, c ≤ nc ∧ i = .int .i64 c ∧ nn = .int .i64 (Plan.st (Ln M Z) c : Nat) ∧ Hid (Ph2 w.heap.size nc M Z c wr) ∧ Below (w.heap.size + 1) W1 wr) (fun _ i _ => nc - (intOf i).toNat)
      case atStart => exact ⟨0, Nat.zero_le _, rfl, rfl, HP0, hB0⟩
      case round =>
        obtain ⟨c, hc, rfl, rfl, HP, hbr⟩ := hrel
        clear HP0 hB0
        by_cases hlt : c < nc
        · obtain rfl := HI.out.hp (by omega)
          have hMc := HMc.out c hlt
          have hbw : Below w.heap.size w wr := by
            have := HW1.out
            rw [← this] at hbr
            exact ((Below.refl _ w).alloc (Nat.le_refl _) _).trans (hbr.mono (by omega))
          have b0 : wr.cell? ⟨w.heap.size, 0, none⟩ = some (.slice (some ⟨pb, po, none⟩) nc cpc) := by
            have := HW1.out
            rw [← this] at hbr
            exact box_cell hbr 0
          have cpw := kept hbw (HI.out.cp c hlt)
          have hmk := run_make_row' (P := Yba.prog) 32 21 (.int .i32 0) 4 Yba.underlying32 info21 rfl .i64 .i64 (M c) (by omega) (by omega)
          go_wp2
          obtain ⟨w0, hw0⟩ : ∃ x, x = wr := ⟨_, rfl⟩
          subst hw0
          have hR3 := World.rowIs_made w0 (.int .i32 0) (M c) 21
          go_loopw [10, 12] (fun p i wx => ∃ k : Nat, k ≤ M c ∧ i = .int .i64 k ∧ p = .int .i32 ((Plan.en (Z c) k : Int) - 1) ∧ Hid (wx.rowIs w0.heap.size 21 (M c) (fun j => if j < k then .int .i32 (Plan.pl (Z c) j : Int) else .int .i32 0)) ∧ Hid (wx.heap.size = w0.heap.size + 1) ∧ Below w0.heap.size w0 wx) (fun _ i _ => M c - (intOf i).toNat)
          case atStart => exact ⟨0, Nat.zero_le _, rfl, rfl, hR3.congr (fun j _ => by simp), by simp [Hid], (Below.refl _ _).alloc (Nat.le_refl _) _⟩
          case round =>
            obtain ⟨k, hk, rfl, rfl, HR3, HS3, hb3⟩ := hrel
            by_cases hlk : k < M c
            · have b0x := kept hb3 b0
              have hAc := HI.out.hA c hlt (by omega)
              have cpx := kept hb3 cpw
              rw [hAc] at cpx
              have hz := HI.out.cz c hlt k hlk
              have czx := kept hb3 (kept hbw hz.1)
              have hz255 : Z c k ≤ 255 := hz.2
              have rx := HR3.out.cell hlk
              have fx := HR3.out.frozen k
              have hen := Plan.en_le (Z c) k
              have he1 : Plan.en (Z c) (k + 1) = Plan.en (Z c) k + 1 + Z c k % 4 := rfl
              have he2 : Plan.pl (Z c) k = Plan.en (Z c) k + Z c k % 4 := rfl
              have HE1 := hideR he1
              have HE2 := hideR he2
              clear he1 he2 hz hAc cpw b0
              generalize hek : Plan.en (Z c) k = ek at *
              clear hek
              go_wp2
              go_roundw
              case rel => exact ⟨k + 1, by omega, by go_num, congrArg (Value.int .i32) (by rw [HE1.out]; omega), row_fill HR3.out (congrArg (Value.int .i32) (by rw [HE2.out]; omega)), by have := HS3.out; simpa [Hid] using this, hb3.setCell (Nat.le_refl _) _⟩
              case measure => simp [intOf]; omega
            · have ekM : k = M c := by omega
              subst ekM
              have hen := Plan.en_le (Z c) (M c)
              have b0x := kept hb3 b0
              have cpx := kept hb3 cpw
              obtain ⟨ek, hek⟩ : ∃ ek, ek = Plan.en (Z c) (M c) := ⟨_, rfl⟩
              rw [← hek] at hen ⊢
              have HEK := hideR hek
              clear hek b0 cpw hmk hR3
              have hmk2 := run_make_row' (P := Yba.prog) 28 3 (.int .i64 0) 8 Yba.underlying28 info3r rfl .i64 .i64 ek (by omega) (by omega)
              obtain ⟨w3, hw3⟩ : ∃ x, x = wr := ⟨_, rfl⟩
              subst hw3
              go_wp2
              have hR4 := World.rowIs_made w3 (.int .i64 0) ek 3
              have hst : Plan.st (Ln M Z) c ≤ 400000 := by
                have := Plan.st_le (Ln M Z) c (fun i hi => Nat.le_trans (Plan.en_le (Z i) (M i)) (by have := HMc.out i (by omega); omega))
                omega
              obtain ⟨sc, hsc⟩ : ∃ sc, sc = Plan.st (Ln M Z) c := ⟨_, rfl⟩
              rw [← hsc] at hst ⊢
              have HSC := hideR hsc
              clear hsc hmk2
              go_loopw [15] (fun i wx => ∃ q : Nat, q ≤ ek ∧ i = .int .i64 q ∧ Hid (wx.rowIs w3.heap.size 3 ek (fun j => if j < q then .int .i64 ((sc + j : Nat) : Int) else .int .i64 0)) ∧ Hid (wx.heap.size = w3.heap.size + 1) ∧ Below w3.heap.size w3 wx) (fun i _ => ek - (intOf i).toNat)
              case atStart => exact ⟨0, Nat.zero_le _, rfl, hR4.congr (fun j _ => by simp), by simp [Hid], (Below.refl _ _).alloc (Nat.le_refl _) _⟩
              case round =>
                obtain ⟨q, hq, rfl, HR4, HS4, hb4⟩ := hrel
                by_cases hlq : q < ek
                · have rx := HR4.out.cell hlq
                  have fx := HR4.out.frozen q
                  go_wp2
                  go_roundw
                  case rel => exact ⟨q + 1, by omega, by go_num, row_fill HR4.out (congrArg (Value.int .i64) (by omega)), by have := HS4.out; simpa [Hid] using this, hb4.setCell (Nat.le_refl _) _⟩
                  case measure => simp [intOf]; omega
                · have eq : q = ek := by omega
                  subst eq
                  have hb04 : Below w0.heap.size w0 wr := hb3.trans (hb4.mono hb3.size)
                  have r1 := rowIs_below HP.out.ch hb04
                  have r2 := rowIs_below HP.out.pl hb04
                  have x1 := r1.cell hlt
                  have x2 := r2.cell hlt
                  have y1 := r1.frozen c
                  have y2 := r2.frozen c
                  have HQ := hideR (ph2_step HP.out hlt (row_full HR3.out) HS3.out hb3 (by have := HR4.out; rw [HSC.out, HEK.out] at this; exact row_full this) HS4.out hb4)
                  have hbz : Below (w.heap.size + 1) W1 wr := hbr.trans (hb04.mono (by have := HP.out.sz; omega))
                  simp only [Nat.lt_irrefl, if_false] at x1 x2
                  go_wp2
                  go_roundw
                  case rel => exact ⟨c + 1, by omega, by go_num, congrArg (Value.int .i64) (by rw [Plan.st, ← HSC.out]; show _ = ((sc + Plan.en (Z c) (M c) : Nat) : Int); rw [← HEK.out]; omega), by have := HQ.out; rw [show Ln M Z c = q from HEK.out.symm] at this; exact this, (hbz.setCell (by simp) _).setCell (by simp) _⟩
                  case measure => simp [intOf]; omega
        · have e : nc = c := by omega
          subst e
          have hst : Plan.st (Ln M Z) nc ≤ 400000 := by
            have := Plan.st_le (Ln M Z) nc (fun i hi => Nat.le_trans (Plan.en_le (Z i) (M i)) (by have := HMc.out i (by omega); omega))
            omega
          have hst1 := Plan.st_pos (Ln M Z) nc
          have hbw : Below w.heap.size w wr := by
            have := HW1.out
            rw [← this] at hbr
            exact ((Below.refl _ w).alloc (Nat.le_refl _) _).trans (hbr.mono (by omega))
          have hbox : BoxAt ap al ae ar aq nc cpc nl cl ne ce nr cr np cq above wrd w.heap.size wr := by
            have := HW1.out
            rw [← this] at hbr
            exact fun i => box_cell hbr i
          go_upto_region 33 with fail
          exact cruns_p2 ap nc cpc pb po A M C qb qo Z al nl cl lb lo lz ae ne ce eb eo ez ar nr cr rb ro rz aq np cq qqb qqo pz above wrd w W HI hnc hnr hnp hnl hne hW.1 hW.2.1 hW.2.2 HMc (Plan.st (Ln M Z) nc) (hideR rfl) hst hst1 wr HP (hideR hbox) hbw _ (by assumption)
end Go.Proofs.Ybulkbhpq
