/- A proof of 'Rows.LawS2928AExactCardSaid': the row (LawS2928AExact, function 3), then the tied card. -/
import Derived.Test.YbulkbhpqDoorRows
import Derived.Test.YbulkbhpqDoorTie
import Derived.Test.YbulkbhpqDoorCards
import Derived.Test.YbulkbhpqDoorP0
import Derived.Test.YbulkbhpqDoorOpen
import Derived.WalkKit
import Derived.ProofKit
import Derived.OpenShut
import Derived.OpenVars
import Derived.Lay
import Derived.Handy
import Derived.Below
import Derived.SevenTiedAt
namespace Go.Proofs.YbulkbhpqDoor.lawS2928AExact
open Go.ChangeShapes Go.WideShapes Go.ChangeAt Go.RowKit
set_option linter.unusedVariables false
set_option maxRecDepth 100000

theorem own : ownKnob Ybad.prog.godebug = none := by kernel_rfl
theorem laidOut : laidOutB Ybad.prog = true := by kernel_rfl
theorem gl : Ybad.prog.globalNamed (Rows.lawS2928AExactSpec.vars.headD "") = some 0 := by kernel_rfl
theorem gt : (Ybad.prog.globals[0]?).map (·.type) = some 45 := by kernel_rfl
theorem k3 : Ybad.prog.cellsOf 3 = 1 := by kernel_rfl

/-- WHAT THE CONDITION GIVES THE WALK: the variable's two cells. -/
theorem free_of_laid {W : World} (h : laidMetH Ybad.prog Rows.lawS2928AExactRow.laid W) : W.cell? ⟨0, 0, none⟩ = some (.int .i64 (-1)) ∧ W.cell? ⟨0, 1, none⟩ = some (.bool false) := by
  have h' : laidMet Ybad.prog Rows.lawS2928AExactRow.laid W := h
  obtain ⟨ps, ⟨g, t, cs, fuel, p, q, h1, h2, h3, h4, _, _⟩, _⟩ := h'
  obtain rfl : g = 0 := (Option.some.inj (gl.symm.trans h1)).symm
  obtain rfl : t = 45 := (Option.some.inj (gt.symm.trans h2)).symm
  have h4' : DataW.trod (fun _ => ()) Ybad.prog W 0 (fun _ => true) false fuel 45 cs.toList = some (.agg [.lit (.int .i64 (-1)), .lit (.bool false)], p) := h4
  obtain ⟨xs, n, _, hx, hl, hxl, hf⟩ := DataW.trod_struct Ybad.underlying45 h4'
  have k45 : Ybad.prog.cellsOf 45 = 2 := by kernel_rfl
  rw [k45] at hl
  obtain ⟨l⟩ := cs
  have hxl' : xs.length = 2 := hxl
  match l, hl, xs, hxl' with
  | [v0, v1], _, [y0, y1], _ =>
    have g0 := hf 0 _ rfl
    have g1 := hf 1 _ rfl
    have g0' : DataW.trod (fun _ => ()) Ybad.prog W 0 (fun _ => true) false n 3 [v0] = some y0 := by simpa [k3] using g0
    have g1' : DataW.trod (fun _ => ()) Ybad.prog W 0 (fun _ => true) false n 4 [v1] = some y1 := by simpa [k4] using g1
    obtain ⟨a, ea, xa, _⟩ := DataW.trod_int Ybad.underlying3 g0'
    obtain ⟨b, eb, xb⟩ := DataW.trod_bool Ybad.underlying4 g1'
    subst xa xb
    simp only [Prod.mk.injEq, DataW.agg.injEq, List.map_cons, List.map_nil, List.cons.injEq, DataW.lit.injEq, Lit.int.injEq, Lit.bool.injEq, and_true, true_and] at hx ea eb
    subst ea eb
    have hc := World.var?_cell gl h3
    refine ⟨(hc 0).trans ?_, (hc 1).trans ?_⟩
    · rw [← hx.1.1]; rfl
    · rw [← hx.1.2]; rfl

theorem walk {H : Type} {enc : TypeId × Value → H} {W : World} {r : Reach} {b0 : Nat} {v0 v1 v2 v3 v4 : Value} {d0 d1 d2 d3 d4 : DataW H} {p0 p1 p2 p3 p4 : List MemPlace}
    (h0 : DataW.Trod enc Ybad.prog W 0 (fun _ => true) true 22 v0 d0 p0) (h1 : DataW.Trod enc Ybad.prog W 0 (fun _ => true) true 23 v1 d1 p1) (h2 : DataW.Trod enc Ybad.prog W 0 (fun _ => true) true 24 v2 d2 p2) (h3 : DataW.Trod enc Ybad.prog W 0 (fun _ => true) true 26 v3 d3 p3) (h4 : DataW.Trod enc Ybad.prog W 0 (fun _ => true) true 27 v4 d4 p4)
    (o0 : Value.okWide Ybad.prog W r b0 22 v0) (o1 : Value.okWide Ybad.prog W r b0 23 v1) (o2 : Value.okWide Ybad.prog W r b0 24 v2) (o3 : Value.okWide Ybad.prog W r b0 26 v3) (o4 : Value.okWide Ybad.prog W r b0 27 v4)
    (hL : laidMetH Ybad.prog Rows.lawS2928AExactRow.laid W) :
    Calls Ybad.prog 3 #[v0, v1, v2, v3, v4] W fun e w' => e = .returned (.bool true) ∧ Below W.heap.size W w' := by
  obtain ⟨g0, g1⟩ := free_of_laid hL
  obtain ⟨f0, m0⟩ := h0
  obtain ⟨f1, m1⟩ := h1
  obtain ⟨a0, n0, c0, rfl⟩ := okWide_slice Ybad.underlying22 o0
  obtain ⟨a1, n1, c1, rfl⟩ := okWide_slice Ybad.underlying23 o1
  obtain ⟨aw, nw, cw, wbk, wo, ww, e0, hw0⟩ := bytes_in m0
  obtain ⟨ar, nr, cr, rb, ro, wrt, rat, ia, ni, ic, qb, qo, z, e1, hr0, hr1⟩ := reads_in m1
  obtain ⟨ta, tn, tc, tb, to, tz, rfl, ht⟩ := wats_in o2 h2
  obtain ⟨sa, rfl, hsa⟩ := sats_in o3 h3
  obtain ⟨sf, rfl⟩ := sfin_in o4 h4
  rw [e0, e1]
  exact law_any aw nw cw wbk wo ww ar nr cr rb ro wrt rat ia ni ic qb qo z ta tn tc tb to tz sa sf W
    { wp := hw0.1, wc := hw0.2, rp := hr0, r0 := fun i hi => (hr1 i hi).1, r1 := fun i hi => (hr1 i hi).2.1, r2 := fun i hi => (hr1 i hi).2.2.1, ip := fun i hi => (hr1 i hi).2.2.2.1, iz := fun i hi => (hr1 i hi).2.2.2.2, tp := fun x hx => (ht x hx).1, tcell := fun x hx => (ht x hx).2, sb := hsa, g0 := g0, g1 := g1 }

theorem lifted (os : Os) (started : os.Started) (H : Type) (enc : TypeId × Value → H) :
    ReturnsInHanded {} Ybad.checked os 3 .any (fun w args => (Rows.lawS2928AExactSpec.pre enc Ybad.prog Ybad.f3 [] false w args ∧ laidMetH Ybad.prog Rows.lawS2928AExactRow.laid w) ∧ sizedMet enc Ybad.prog Ybad.f3 (OpenSpec.ofChange Rows.lawS2928AExactSpec) false w args)
      (Rows.lawS2928AExactSpec.post enc Ybad.prog Ybad.f3 false true false false) := by
  refine returnsInHanded_of_change_and (C := Ybad.checked) (X := fun w _ => laidMetH Ybad.prog Rows.lawS2928AExactRow.laid w) (fun _ _ _ hh h => h.of_heap hh) own started (by kernel_rfl) Ybad.func3
    (ChangeSpec.witness_shaped (enc := enc) (C := Ybad.checked) (os := os) (X := fun w _ => laidMetH Ybad.prog Rows.lawS2928AExactRow.laid w) false (World.laidAll Ybad.prog os Rows.lawS2928AExactRow.laid)
      #[.slice none 0 0, .slice none 0 0, .agg #[.slice none 0 0, .slice none 0 0, .slice none 0 0, .slice none 0 0], .agg #[.int .i16 0, .int .i16 0, .int .i16 0, .int .i16 0], .agg #[.bool false, .bool false, .bool false, .bool false]] 8 (World.laidAll_os _ _ _)
      (World.shaped_of_ZipB (by kernel_rfl) (by kernel_rfl)) (by kernel_rfl) (by kernel_rfl) (by kernel_rfl)
      (by rw [MakeChecks.laidMetH_plain _ _ _ (by kernel_rfl)]; exact laidMet_laidAll _ (by kernel_rfl) (by kernel_rfl))) ?_
  intro W base args ds gs before hval0 hW _ _ hL _
  have hval : ∀ (j : Nat) t v, Ybad.f3.params[j]? = some t → args[j]? = some v → Value.okWide Ybad.prog W .any base t v := hval0
  have hW' := hW
  obtain ⟨p, q, hA0, hV, rfl, hfz, hnd⟩ := hW
  have hA : DataW.TrodAll enc Ybad.prog W 0 (fun _ => true) true Ybad.f3.params.toList args.toList ds p := hA0
  rw [Ybad.params3] at hA hval
  obtain ⟨v0, vs0, d0, ds0, p0, q0, hargs, rfl, rfl, h0, r0⟩ := trodAll_cons hA
  obtain ⟨v1, vs1, d1, ds1, p1, q1, rfl, rfl, rfl, h1, r1⟩ := trodAll_cons r0
  obtain ⟨v2, vs2, d2, ds2, p2, q2, rfl, rfl, rfl, h2, r2⟩ := trodAll_cons r1
  obtain ⟨v3, vs3, d3, ds3, p3, q3, rfl, rfl, rfl, h3, r3⟩ := trodAll_cons r2
  obtain ⟨v4, vs4, d4, ds4, p4, q4, rfl, rfl, rfl, h4, r4⟩ := trodAll_cons r3
  obtain ⟨rfl, rfl, rfl⟩ := trodAll_nil r4
  obtain rfl : args = #[v0, v1, v2, v3, v4] := by cases args; simp_all
  have lt0 : ∀ x ∈ p0, x.block < W.heap.size := by obtain ⟨m, hm⟩ := h0; exact DataW.trod_lt m _ _ _ hm
  have lt1 : ∀ x ∈ p1, x.block < W.heap.size := by obtain ⟨m, hm⟩ := h1; exact DataW.trod_lt m _ _ _ hm
  have lt2 : ∀ x ∈ p2, x.block < W.heap.size := by obtain ⟨m, hm⟩ := h2; exact DataW.trod_lt m _ _ _ hm
  have lt3 : ∀ x ∈ p3, x.block < W.heap.size := by obtain ⟨m, hm⟩ := h3; exact DataW.trod_lt m _ _ _ hm
  have lt4 : ∀ x ∈ p4, x.block < W.heap.size := by obtain ⟨m, hm⟩ := h4; exact DataW.trod_lt m _ _ _ hm
  refine (walk h0 h1 h2 h3 h4 (hval 0 22 v0 rfl rfl) (hval 1 23 v1 rfl rfl) (hval 2 24 v2 rfl rfl) (hval 3 26 v3 rfl rfl) (hval 4 27 v4 rfl rfl) hL).mono fun e W' ⟨he, bel⟩ => ?_
  subst he
  have hv' := Below.trodVars (enc := enc) laidOut bel (by kernel_rfl) hV
  have b0 := Below.trod laidOut (by kernel_rfl) (of_decide_eq_true (by kernel_rfl)) h0 bel lt0
  have b1 := Below.trod laidOut (by kernel_rfl) (of_decide_eq_true (by kernel_rfl)) h1 bel lt1
  have b2 := Below.trod laidOut (by kernel_rfl) (of_decide_eq_true (by kernel_rfl)) h2 bel lt2
  have b3 := Below.trod laidOut (by kernel_rfl) (of_decide_eq_true (by kernel_rfl)) h3 bel lt3
  have b4 := Below.trod laidOut (by kernel_rfl) (of_decide_eq_true (by kernel_rfl)) h4 bel lt4
  have hV' : DataW.TrodVars enc Ybad.prog W (fun _ => true) [Rows.lawS2928AExactSpec.vars.headD ""] gs q := hV
  obtain ⟨g, t, cs, fuel, d, p5, rfl, _⟩ := trodVars_one hV'
  exact ⟨_, rfl, _, _, _, [], _, _, hW', trodAll_mk1 (shut_bool Ybad.underlying4 _), trodAll_cons_mk b0 (trodAll_cons_mk b1 (trodAll_cons_mk b2 (trodAll_cons_mk b3 (trodAll_cons_mk b4 trodAll_mk0)))), hv', bel.frame _, fun h => by cases h⟩

theorem holds : Rows.LawS2928AExactSaid :=
  OpenClaim.holds_of_wide 3 Ybad.f3 rfl rfl rfl rfl rfl rfl rfl ⟨rfl, rfl, rfl, rfl, rfl⟩ rfl rfl rfl rfl rfl (by kernel_rfl) Ybad.func3 (by kernel_rfl)
    (of_decide_eq_true (by kernel_rfl)) (by unfold Func.isWrapper; first | (rw [if_pos (by decide +kernel)]; kernel_rfl) | (rw [if_neg (by decide +kernel)]; exact ⟨rfl, rfl⟩))
    (fun os started H enc _ => lifted os started H enc)

/-- THE CARD -/
theorem proved : Rows.LawS2928AExactCardSaid :=
  Claim7.holds_tied_plain_at .later [] [.data] true (true, "3911606f351e37e51ac07398bd50b17ca39ca8011d8c5231b99f3ae18703d619") false holds (fun _ h => by cases h) (by kernel_rfl) (fun _ h => by cases h) lawS2928AExact_row_tie rfl ⟨rfl, rfl⟩ (by kernel_rfl) rfl
    (fun f fn hf hfn => by
      obtain rfl : f = 3 := Option.some.inj ((show Ybad.prog.funcNamed Rows.lawS2928AExactRow.func = some 3 by kernel_rfl).symm.trans hf) |>.symm
      obtain rfl : fn = Ybad.f3 := (Option.some.inj (Ybad.func3.symm.trans hfn)).symm
      exact ⟨by kernel_rfl, fun j t ht => by
        rw [Ybad.params3] at ht
        have hm : t ∈ [22, 23, 24, 26, 27] := by simpa using Array.mem_of_getElem? ht
        have hall : ([22, 23, 24, 26, 27].all fun u => !Ybad.prog.wantsStandIn u) = true := by kernel_rfl
        exact (show Ybad.prog.wantsStandIn t = false by simpa using List.all_eq_true.1 hall t hm)⟩)
    (by kernel_rfl)
end Go.Proofs.YbulkbhpqDoor.lawS2928AExact
