/- The argument of LawS2928CRuns, opened: a struct of seven one-cell fields: [][]uint8, []int32 twice, []int, int, bool, []int. -/
import Derived.Test.YbulkbhpqProg
import Derived.Deep.Matrix
import Derived.Deep.Slices
import Derived.WideShapes
import Derived.KernelRfl
namespace Go.Proofs.Ybulkbhpq
open Go.ChangeShapes Go.WideShapes Go.Deep

section
variable {H : Type} {enc : TypeId × Value → H} {P : Program} {w : World} {held : Bool}

theorem spot_plain {a : Addr} {v : Value} (h : w.cell? (a.add 0) = some v) : ∃ b o, a = ⟨b, o, none⟩ := by
  obtain ⟨b, o, spot⟩ := a
  have hs : spot = none := by simpa [Addr.add] using World.cell?_spot h
  subst hs
  exact ⟨b, o, rfl⟩

theorem ints_in {t e : TypeId} {k : IntKind} {fuel : Nat} {v : Value} {y : DataW H × List MemPlace} (ht : P.underlying t = some (.slice e)) (he : P.underlying e = some (.int k)) (ce : P.cellsOf e = 1)
    (h : DataW.trod enc P w 0 (fun _ => true) held fuel t [v] = some y) :
    ∃ (ao : Option Addr) (len cap b o : Nat) (z : Nat → Int), v = .slice ao len cap ∧ len ≤ maxLen ∧ (0 < len → ao = some ⟨b, o, none⟩) ∧ ∀ i, i < len → w.cell? ⟨b, o + i, none⟩ = some (.int k (z i)) := by
  rcases open_ints ht he ce h with ⟨hcs, _⟩ | ⟨a, len, cap, zs, hcs, _, hl, hm, hz, _, hcell, hwz⟩
  · simp at hcs
    exact ⟨none, 0, 0, 0, 0, fun _ => 0, hcs, Nat.zero_le _, fun h => absurd h (Nat.lt_irrefl _), fun i hi => absurd hi (Nat.not_lt_zero _)⟩
  · simp at hcs
    simp only [if_true] at hz
    by_cases h0 : len = 0
    · subst h0
      exact ⟨some a, 0, cap, 0, 0, fun _ => 0, hcs, Nat.zero_le _, fun h => absurd h (Nat.lt_irrefl _), fun i hi => absurd hi (Nat.not_lt_zero _)⟩
    · obtain ⟨b, o, rfl⟩ := spot_plain (hcell 0 (by omega))
      exact ⟨_, len, cap, b, o, fun i => zs.getD i 0, hcs, Nat.le_trans hl hm, fun _ => rfl, fun i hi => by rw [← add_plain]; exact hcell i (by omega)⟩

theorem bd8 {n : Int} (h : (Lit.int .u8 n).wf = true) : 0 ≤ n ∧ n ≤ 255 := by
  simp [Lit.wf, IntKind.min, IntKind.max, IntKind.signed, IntKind.bits] at h
  omega

theorem rows_in {t e q : TypeId} {fuel : Nat} {v : Value} {y : DataW H × List MemPlace} (ht : P.underlying t = some (.slice e)) (he : P.underlying e = some (.slice q)) (hq : P.underlying q = some (.int .u8)) (ce : P.cellsOf e = 1) (cq : P.cellsOf q = 1)
    (h : DataW.trod enc P w 0 (fun _ => true) held fuel t [v] = some y) :
    ∃ (ap : Option Addr) (nc cp pb po : Nat) (A : Nat → Option Addr) (M C qb qo : Nat → Nat) (Z : Nat → Nat → Nat), v = .slice ap nc cp ∧ nc ≤ maxLen ∧ (0 < nc → ap = some ⟨pb, po, none⟩) ∧
      (∀ c, c < nc → w.cell? ⟨pb, po + c, none⟩ = some (.slice (A c) (M c) (C c)) ∧ M c ≤ maxLen ∧ (0 < M c → A c = some ⟨qb c, qo c, none⟩) ∧ ∀ k, k < M c → w.cell? ⟨qb c, qo c + k, none⟩ = some (.int .u8 (Z c k : Int)) ∧ Z c k ≤ 255) := by
  rcases open_int_rows ht he hq ce cq h with ⟨hcs, _⟩ | ⟨a, len, cap, A, L, C, Z, hcs, _, hl, hm, _, hrow⟩
  · simp at hcs
    exact ⟨none, 0, 0, 0, 0, fun _ => none, fun _ => 0, fun _ => 0, fun _ => 0, fun _ => 0, fun _ _ => 0, hcs, Nat.zero_le _, fun h => absurd h (Nat.lt_irrefl _), fun i hi => absurd hi (Nat.not_lt_zero _)⟩
  · simp at hcs
    have each : ∀ r, r < cap → ∃ x : Nat × Nat, (0 < L r → A r = some ⟨x.1, x.2, none⟩) ∧ ∀ c, c < L r → w.cell? ⟨x.1, x.2 + c, none⟩ = some (.int .u8 ((((Z r).getD c 0).toNat : Nat) : Int)) ∧ ((Z r).getD c 0).toNat ≤ 255 := by
      intro r hr
      obtain ⟨_, h2, h3, h4, h5, h6, h7⟩ := hrow r hr
      by_cases h0 : L r = 0
      · exact ⟨(0, 0), fun h => absurd h (by omega), fun c hc => absurd hc (by omega)⟩
      · cases hA : A r with
        | none => exact absurd (h6 hA) (by omega)
        | some a' =>
          have hc := (h7 a' hA).2
          obtain ⟨b, o, rfl⟩ := spot_plain (hc 0 (by omega))
          refine ⟨(b, o), fun _ => rfl, fun c hcl => ?_⟩
          have hwf : (Lit.int .u8 ((Z r).getD c 0)).wf = true := h5 _ (by simp [List.getD, List.getElem?_eq_getElem (show c < (Z r).length by omega)])
          have hb := bd8 hwf
          have := hc c (by omega)
          rw [add_plain] at this
          rw [Int.toNat_of_nonneg hb.1]
          exact ⟨this, by omega⟩
    obtain ⟨f, hf⟩ := choose_lt each
    by_cases h0 : len = 0
    · subst h0
      exact ⟨some a, 0, cap, 0, 0, fun _ => none, fun _ => 0, fun _ => 0, fun _ => 0, fun _ => 0, fun _ _ => 0, hcs, Nat.zero_le _, fun h => absurd h (Nat.lt_irrefl _), fun i hi => absurd hi (Nat.not_lt_zero _)⟩
    · obtain ⟨b, o, rfl⟩ := spot_plain (hrow 0 (by omega)).1
      refine ⟨_, len, cap, b, o, A, L, C, fun r => (f r).1, fun r => (f r).2, fun r c => ((Z r).getD c 0).toNat, hcs, Nat.le_trans hl hm, fun _ => rfl, fun c hc => ⟨?_, Nat.le_trans (hrow c (by omega)).2.1 (hrow c (by omega)).2.2.1, (hf c (by omega)).1, (hf c (by omega)).2⟩⟩
      rw [← add_plain]; exact (hrow c (by omega)).1

theorem fields7 {fuel : Nat} {c0 c1 c2 c3 c4 c5 c6 : Value} {x : DataW H × List MemPlace} (h : DataW.trod enc Yba.prog w 0 (fun _ => true) held fuel 34 [c0, c1, c2, c3, c4, c5, c6] = some x) :
    ∃ n, (∃ y, DataW.trod enc Yba.prog w 0 (fun _ => true) held n 31 [c0] = some y) ∧ (∃ y, DataW.trod enc Yba.prog w 0 (fun _ => true) held n 32 [c1] = some y) ∧ (∃ y, DataW.trod enc Yba.prog w 0 (fun _ => true) held n 32 [c2] = some y) ∧
      (∃ y, DataW.trod enc Yba.prog w 0 (fun _ => true) held n 28 [c3] = some y) ∧ (∃ y, DataW.trod enc Yba.prog w 0 (fun _ => true) held n 3 [c4] = some y) ∧ (∃ y, DataW.trod enc Yba.prog w 0 (fun _ => true) held n 4 [c5] = some y) ∧ (∃ y, DataW.trod enc Yba.prog w 0 (fun _ => true) held n 28 [c6] = some y) := by
  obtain ⟨xs, n, _, _, _, hxl, hf⟩ := DataW.trod_struct Yba.underlying34 h
  have k31 : Yba.prog.cellsOf 31 = 1 := by kernel_rfl
  have k32 : Yba.prog.cellsOf 32 = 1 := by kernel_rfl
  have k28 : Yba.prog.cellsOf 28 = 1 := by kernel_rfl
  have k3 : Yba.prog.cellsOf 3 = 1 := by kernel_rfl
  have k4 : Yba.prog.cellsOf 4 = 1 := by kernel_rfl
  have hlen : xs.length = 7 := hxl
  have g0 := hf 0 _ rfl
  have g1 := hf 1 _ rfl
  have g2 := hf 2 _ rfl
  have g3 := hf 3 _ rfl
  have g4 := hf 4 _ rfl
  have g5 := hf 5 _ rfl
  have g6 := hf 6 _ rfl
  rw [List.getElem?_eq_getElem (by omega)] at g0 g1 g2 g3 g4 g5 g6
  exact ⟨n, ⟨_, by simpa [k31] using g0⟩, ⟨_, by simpa [k32] using g1⟩, ⟨_, by simpa [k32] using g2⟩, ⟨_, by simpa [k28] using g3⟩, ⟨_, by simpa [k3] using g4⟩, ⟨_, by simpa [k4] using g5⟩, ⟨_, by simpa [k28] using g6⟩⟩

theorem arr7 {cs : Array Value} (h : cs.size = 7) : ∃ c0 c1 c2 c3 c4 c5 c6, cs = #[c0, c1, c2, c3, c4, c5, c6] := by
  obtain ⟨l⟩ := cs
  match l, h with
  | [c0, c1, c2, c3, c4, c5, c6], _ => exact ⟨c0, c1, c2, c3, c4, c5, c6, rfl⟩
end
end Go.Proofs.Ybulkbhpq
