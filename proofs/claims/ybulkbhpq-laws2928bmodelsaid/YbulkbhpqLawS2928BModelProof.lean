/- A proof of 'Rows.LawS2928BModelSaid' (after the seat tool's shell for slices of integers, turned to a slice of structs). -/
import Derived.Test.YbulkbhpqRows
import Derived.Test.YbulkbhpqBModelEdge
import Derived.Test.YbulkbhpqOpen3
import Derived.WalkKit
import Derived.ProofKit
import Derived.OpenShut
import Derived.ShutString
import Derived.ChangeOld
import Derived.Below
namespace Go.Proofs.Ybulkbhpq.lawS2928BModel
open Go.ChangeShapes Go.WideShapes Go.ChangeAt Go.RowKit
set_option linter.unusedVariables false

theorem own : ownKnob Yba.prog.godebug = none := by kernel_rfl
theorem laidOut : laidOutB Yba.prog = true := by kernel_rfl

/-- WHAT THE WALK IS TOLD OF THE SLICE THAT CAME IN. -/
def IsRow (w : World) (a : Option Addr) (len cap : Nat) : Prop :=
  (a = none ∧ len = 0 ∧ cap = 0) ∨
  ∃ (x : Addr) (T A R : Nat → Int), a = some x ∧ len ≤ cap ∧
    ∀ i, i < cap → w.cell? (x.add (i * 3)) = some (.int .i64 (T i)) ∧ w.cell? (x.add (i * 3 + 1)) = some (.int .i64 (A i)) ∧ w.cell? (x.add (i * 3 + 2)) = some (.int .i64 (R i))

theorem walk (a0 : Option Addr) (len0 cap0 : Nat) (w : World) (w0 : IsRow w a0 len0 cap0) :
    Calls Yba.prog 3 #[.slice a0 len0 cap0] w fun e w' => e = .returned (.bool true) ∧ Below w.heap.size w w' := by
  rcases w0 with ⟨rfl, rfl, rfl⟩ | ⟨x, T, A, R, rfl, hl, hc⟩
  · exact bmodel_nil w
  · by_cases h1 : 1024 < len0
    · exact bmodel_long _ _ _ w h1
    · by_cases h0 : len0 = 0
      · subst h0; exact bmodel_zero x cap0 w
      · obtain ⟨b, off, spot⟩ := x
        have hspot : spot = none := by simpa [Addr.add] using World.cell?_spot (hc 0 (by omega)).1
        subst hspot
        have hlt : b < w.heap.size := World.block_lt_of_cell? w _ (hc 0 (by omega)).1
        refine bmodel_some b off len0 cap0 T A R w (by omega) hlt (fun i hi => ?_) (fun i hi => ?_) (fun i hi => ?_)
        · rw [← add_plain]; exact (hc i (by omega)).1
        · rw [Nat.add_assoc, ← add_plain]; exact (hc i (by omega)).2.1
        · rw [Nat.add_assoc, ← add_plain]; exact (hc i (by omega)).2.2

set_option maxRecDepth 100000 in
theorem lifted (os : Os) (started : os.Started) (H : Type) (enc : TypeId × Value → H) :
    ReturnsInHanded {} Yba.checked os 3 .any (Rows.lawS2928BModelSpec.pre6 enc Yba.prog Yba.f3 Rows.lawS2928BModelRow.domain false) (Rows.lawS2928BModelSpec.post enc Yba.prog Yba.f3 false true false false) := by
  refine returnsInHanded_of_change (C := Yba.checked) own started (by kernel_rfl) Yba.func3
    (ChangeSpec.witness6 (enc := enc) (C := Yba.checked) false ⟨#[], #[.slice none 0 0], []⟩ 8 (by kernel_rfl) (by kernel_rfl) (by kernel_rfl) (by kernel_rfl)) ?_
  intro W base args ds gs before hval0 hW hcnd _
  have hval : ∀ (j : Nat) t v, Yba.f3.params[j]? = some t → args[j]? = some v → Value.okWide Yba.prog W .any base t v := hval0
  have hW' := hW
  obtain ⟨p, q, hA0, hV, rfl, hfz, hnd⟩ := hW
  have hA : DataW.TrodAll enc Yba.prog W 0 (fun _ => true) true Yba.f3.params.toList args.toList ds p := hA0
  rw [Yba.params3] at hA hval
  obtain ⟨v0, vs0, d0, ds0, p0, q0, hargs, rfl, rfl, h0, r0⟩ := trodAll_cons hA
  obtain ⟨rfl, rfl, rfl⟩ := trodAll_nil r0
  obtain rfl : args = #[v0] := by cases args; simp_all
  obtain ⟨rfl, rfl⟩ := trodVars_none hV
  obtain ⟨a0, len0, cap0, rfl⟩ := okWide_slice Yba.underlying22 (hval 0 22 v0 rfl rfl)
  have k0 := h0
  have lt0 : ∀ x ∈ p0, x.block < W.heap.size := by obtain ⟨m, hm⟩ := k0; exact DataW.trod_lt m _ _ _ hm
  have w0 : IsRow W a0 len0 cap0 := by
    obtain ⟨fuel, hf⟩ := h0
    rcases open_triples Yba.underlying22 Yba.underlying25 (by kernel_rfl) rfl rfl rfl Yba.underlying3 Yba.underlying3 Yba.underlying3 (by kernel_rfl) (by kernel_rfl) (by kernel_rfl) hf with hcs | ⟨x, l, c, T, A, R, hcs, hl, hcell⟩
    · simp [Value.cells] at hcs
      obtain ⟨rfl, rfl, rfl⟩ := hcs
      exact .inl ⟨rfl, rfl, rfl⟩
    · simp [Value.cells] at hcs
      obtain ⟨rfl, rfl, rfl⟩ := hcs
      exact .inr ⟨_, T, A, R, rfl, hl, hcell⟩
  clear hA0 hval0
  refine (walk a0 len0 cap0 W w0).mono fun e W' ⟨he, bel⟩ => ?_
  subst he
  exact ⟨_, rfl, _, _, _, [], _, [], hW', trodAll_mk1 (shut_bool Yba.underlying4 _), (trodAll_cons_mk (Below.trod laidOut (by kernel_rfl) (of_decide_eq_true (by kernel_rfl)) k0 bel lt0) trodAll_mk0), rfl, bel.frame _, fun h => by cases h⟩

theorem over : Rows.lawS2928BModelRow.holds Yba.pinned (OpenSpec.ofChange Rows.lawS2928BModelSpec) :=
  OpenClaim.holds_of_wide 3 Yba.f3 rfl rfl rfl rfl rfl rfl rfl ⟨rfl, rfl, rfl, rfl, rfl⟩ rfl rfl rfl rfl rfl (by kernel_rfl) Yba.func3 (by kernel_rfl)
    (of_decide_eq_true (by kernel_rfl)) (by unfold Func.isWrapper; first | (rw [if_pos (by decide +kernel)]; kernel_rfl) | (rw [if_neg (by decide +kernel)]; exact ⟨rfl, rfl⟩))
    (fun os started H enc _ => lifted os started H enc)

/-- THE STATEMENT -/
theorem proved : Rows.LawS2928BModelSaid := over
end Go.Proofs.Ybulkbhpq.lawS2928BModel
