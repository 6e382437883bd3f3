/- A proof of 'Rows.LawS2928CRunsSaid' (after the seat tool's shell for slices, turned to a struct of seven fields). -/
import Derived.Test.YbulkbhpqRows
import Derived.Test.YbulkbhpqCRunsP1
import Derived.Test.YbulkbhpqOpen7
import Derived.WalkKit
import Derived.ProofKit
import Derived.OpenShut
import Derived.ShutString
import Derived.ChangeOld
import Derived.Below
namespace Go.Proofs.Ybulkbhpq.lawS2928CRuns
open Go.ChangeShapes Go.WideShapes Go.ChangeAt Go.RowKit
set_option linter.unusedVariables false
set_option maxRecDepth 100000

theorem own : ownKnob Yba.prog.godebug = none := by kernel_rfl
theorem laidOut : laidOutB Yba.prog = true := by kernel_rfl

theorem long (a0 a1 a2 a3 a6 : Option Addr) (n0 k0 n1 k1 n2 k2 n3 k3 n6 k6 : Nat) (above : Int) (wrd : Bool) (w : World) (h : 300 < n0 ∨ 4096 < n3 ∨ 4096 < n6) :
    Calls Yba.prog 4 #[.agg #[.slice a0 n0 k0, .slice a1 n1 k1, .slice a2 n2 k2, .slice a3 n3 k3, .int .i64 above, .bool wrd, .slice a6 n6 k6]] w fun e w' => e = .returned (.bool true) ∧ Below w.heap.size w w' := by
  by_cases h0 : 300 < n0
  · have d1 : decide (300 < (n0 : Int)) = true := by simp; omega
    go_enter Yba.func4, Yba.ntmps4
    go_wp2
    go_ret
    exact ⟨rfl, (Below.refl _ _).alloc (Nat.le_refl _) _⟩
  · have d1 : decide (300 < (n0 : Int)) = false := by simp; omega
    by_cases h3 : 4096 < n3
    · have d2 : decide (4096 < (n3 : Int)) = true := by simp; omega
      go_enter Yba.func4, Yba.ntmps4
      go_wp2
      go_ret
      exact ⟨rfl, (Below.refl _ _).alloc (Nat.le_refl _) _⟩
    · have d2 : decide (4096 < (n3 : Int)) = false := by simp; omega
      have d3 : decide (4096 < (n6 : Int)) = true := by simp; omega
      go_enter Yba.func4, Yba.ntmps4
      go_wp2
      go_ret
      exact ⟨rfl, (Below.refl _ _).alloc (Nat.le_refl _) _⟩

/-- WHAT THE WALK IS TOLD OF THE STRUCT THAT CAME IN. -/
def IsIn (w : World) (v : Value) : Prop :=
  ∃ (ap : Option Addr) (nc cpc pb po : Nat) (A : Nat → Option Addr) (M C qb qo : Nat → Nat) (Z : Nat → Nat → Nat) (al : Option Addr) (nl cl lb lo : Nat) (lz : Nat → Int) (ae : Option Addr) (ne ce eb eo : Nat) (ez : Nat → Int)
    (ar : Option Addr) (nr cr rb ro : Nat) (rz : Nat → Int) (aq : Option Addr) (np cq qqb qqo : Nat) (pz : Nat → Int) (above : Int) (wrd : Bool),
    v = .agg #[.slice ap nc cpc, .slice al nl cl, .slice ae ne ce, .slice ar nr cr, .int .i64 above, .bool wrd, .slice aq np cq] ∧ CIn ap nc pb po A M C qb qo Z al nl lb lo lz ae ne eb eo ez ar nr rb ro rz aq np qqb qqo pz w ∧
    (∀ c, c < nc → M c ≤ maxLen) ∧ nl ≤ maxLen ∧ ne ≤ maxLen

theorem walk (v : Value) (w : World) (h : IsIn w v) : Calls Yba.prog 4 #[v] w fun e w' => e = .returned (.bool true) ∧ Below w.heap.size w w' := by
  obtain ⟨ap, nc, cpc, pb, po, A, M, C, qb, qo, Z, al, nl, cl, lb, lo, lz, ae, ne, ce, eb, eo, ez, ar, nr, cr, rb, ro, rz, aq, np, cq, qqb, qqo, pz, above, wrd, rfl, hin, hM, hnl, hne⟩ := h
  unfold maxLen at hM hnl hne
  by_cases hl : 300 < nc ∨ 4096 < nr ∨ 4096 < np
  · exact long _ _ _ _ _ _ _ _ _ _ _ _ _ _ _ _ _ _ hl
  · obtain ⟨W, hW⟩ : ∃ W : Nat, W = if 1 < nc then nc else 1 := ⟨_, rfl⟩
    refine cruns_main ap nc cpc pb po A M C qb qo Z al nl cl lb lo lz ae ne ce eb eo ez ar nr cr rb ro rz aq np cq qqb qqo pz above wrd w hin (by omega) (by omega) (by omega) hM hnl hne W ?_ ?_
    · rw [hW]
      by_cases h1 : 1 < nc
      · rw [if_pos h1, if_pos (by omega)]
      · rw [if_neg h1, if_neg (by omega)]; rfl
    · rw [hW]
      by_cases h1 : 1 < nc
      · rw [if_pos h1]; omega
      · rw [if_neg h1]; omega

theorem isIn {H : Type} {enc : TypeId × Value → H} {W : World} {r : Reach} {b0 : Nat} {v : Value} {d : DataW H} {p : List MemPlace} (hv : Value.okWide Yba.prog W r b0 34 v) (h : DataW.Trod enc Yba.prog W 0 (fun _ => true) true 34 v d p) : IsIn W v := by
  obtain ⟨cs, rfl, hsz⟩ := okWide_struct Yba.underlying34 hv
  have k34 : Yba.prog.cellsOf 34 = 7 := by kernel_rfl
  obtain ⟨c0, c1, c2, c3, c4, c5, c6, rfl⟩ := arr7 (hsz.trans k34)
  obtain ⟨fuel, hf⟩ := h
  obtain ⟨n, ⟨_, g0⟩, ⟨_, g1⟩, ⟨_, g2⟩, ⟨_, g3⟩, ⟨_, g4⟩, ⟨_, g5⟩, ⟨_, g6⟩⟩ := fields7 hf
  obtain ⟨ap, nc, cpc, pb, po, A, M, C, qb, qo, Z, rfl, hnc, hp, hrow⟩ := rows_in Yba.underlying31 Yba.underlying35 Yba.underlying5 (by kernel_rfl) (by kernel_rfl) g0
  obtain ⟨al, nl, cl, lb, lo, lz, rfl, hnl, hl, hlc⟩ := ints_in Yba.underlying32 Yba.underlying21 (by kernel_rfl) g1
  obtain ⟨ae, ne, ce, eb, eo, ez, rfl, hne, he, hec⟩ := ints_in Yba.underlying32 Yba.underlying21 (by kernel_rfl) g2
  obtain ⟨ar, nr, cr, rb, ro, rz, rfl, hnr, hr, hrc⟩ := ints_in Yba.underlying28 Yba.underlying3 (by kernel_rfl) g3
  obtain ⟨above, e4, _, _⟩ := DataW.trod_int Yba.underlying3 g4
  obtain ⟨wrd, e5, _⟩ := DataW.trod_bool Yba.underlying4 g5
  obtain ⟨aq, np, cq, qqb, qqo, pz, rfl, hnp, hq, hqc⟩ := ints_in Yba.underlying28 Yba.underlying3 (by kernel_rfl) g6
  simp only [List.cons.injEq, and_true] at e4 e5
  subst e4 e5
  exact ⟨ap, nc, cpc, pb, po, A, M, C, qb, qo, Z, al, nl, cl, lb, lo, lz, ae, ne, ce, eb, eo, ez, ar, nr, cr, rb, ro, rz, aq, np, cq, qqb, qqo, pz, above, wrd, rfl,
    ⟨hp, fun c hc => (hrow c hc).1, fun c hc => (hrow c hc).2.2.1, fun c hc => (hrow c hc).2.2.2, hl, hlc, he, hec, hr, hrc, hq, hqc⟩, fun c hc => (hrow c hc).2.1, hnl, hne⟩

set_option maxRecDepth 100000 in
theorem lifted (os : Os) (started : os.Started) (H : Type) (enc : TypeId × Value → H) :
    ReturnsInHanded {} Yba.checked os 4 .any (Rows.lawS2928CRunsSpec.pre6 enc Yba.prog Yba.f4 Rows.lawS2928CRunsRow.domain false) (Rows.lawS2928CRunsSpec.post enc Yba.prog Yba.f4 false true false false) := by
  refine returnsInHanded_of_change (C := Yba.checked) own started (by kernel_rfl) Yba.func4
    (ChangeSpec.witness6 (enc := enc) (C := Yba.checked) false ⟨#[], #[.agg #[.slice none 0 0, .slice none 0 0, .slice none 0 0, .slice none 0 0, .int .i64 0, .bool false, .slice none 0 0]], []⟩ 8 (by kernel_rfl) (by kernel_rfl) (by kernel_rfl) (by kernel_rfl)) ?_
  intro W base args ds gs before hval0 hW hcnd _
  have hval : ∀ (j : Nat) t v, Yba.f4.params[j]? = some t → args[j]? = some v → Value.okWide Yba.prog W .any base t v := hval0
  have hW' := hW
  obtain ⟨p, q, hA0, hV, rfl, hfz, hnd⟩ := hW
  have hA : DataW.TrodAll enc Yba.prog W 0 (fun _ => true) true Yba.f4.params.toList args.toList ds p := hA0
  rw [Yba.params4] at hA hval
  obtain ⟨v0, vs0, d0, ds0, p0, q0, hargs, rfl, rfl, h0, r0⟩ := trodAll_cons hA
  obtain ⟨rfl, rfl, rfl⟩ := trodAll_nil r0
  obtain rfl : args = #[v0] := by cases args; simp_all
  obtain ⟨rfl, rfl⟩ := trodVars_none hV
  have k0 := h0
  have lt0 : ∀ x ∈ p0, x.block < W.heap.size := by obtain ⟨m, hm⟩ := k0; exact DataW.trod_lt m _ _ _ hm
  have w0 := isIn (hval 0 34 v0 rfl rfl) h0
  clear hA0 hval0
  refine (walk v0 W w0).mono fun e W' ⟨he, bel⟩ => ?_
  subst he
  exact ⟨_, rfl, _, _, _, [], _, [], hW', trodAll_mk1 (shut_bool Yba.underlying4 _), (trodAll_cons_mk (Below.trod laidOut (by kernel_rfl) (of_decide_eq_true (by kernel_rfl)) k0 bel lt0) trodAll_mk0), rfl, bel.frame _, fun h => by cases h⟩

theorem over : Rows.lawS2928CRunsRow.holds Yba.pinned (OpenSpec.ofChange Rows.lawS2928CRunsSpec) :=
  OpenClaim.holds_of_wide 4 Yba.f4 rfl rfl rfl rfl rfl rfl rfl ⟨rfl, rfl, rfl, rfl, rfl⟩ rfl rfl rfl rfl rfl (by kernel_rfl) Yba.func4 (by kernel_rfl)
    (of_decide_eq_true (by kernel_rfl)) (by unfold Func.isWrapper; first | (rw [if_pos (by decide +kernel)]; kernel_rfl) | (rw [if_neg (by decide +kernel)]; exact ⟨rfl, rfl⟩))
    (fun os started H enc _ => lifted os started H enc)

/-- THE STATEMENT -/
theorem proved : Rows.LawS2928CRunsSaid := over
end Go.Proofs.Ybulkbhpq.lawS2928CRuns
