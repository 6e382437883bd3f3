/- Laws for the last part of LawS2928CRuns. -/
import Derived.Test.YbulkbhpqCRunsA
import Derived.Test.YbulkbhpqCRunsS
namespace Go.Proofs.Ybulkbhpq
open Go.RowKit
set_option linter.unusedVariables false
set_option linter.unusedSimpArgs false
attribute [local go_sem] alloc_drewN setCell_drewN


theorem ranks_shape {B gp np : Nat} {Pz : List Int} {w : World} {v : Value} {X : List Int} (h : Ranks B gp np Pz w v X) (hP : Pz.length = np) (hpc : ∀ j, j < np → w.cell? ⟨gp, j, none⟩ = some (.int .i64 (Pz.getD j 0))) :
    ∃ ao c, v = .slice ao (np + X.length) c ∧ (0 < np + X.length → ∃ g, ao = some ⟨g, 0, none⟩ ∧ ∀ j, j < np + X.length → w.cell? ⟨g, 0 + j, none⟩ = some (.int .i64 ((Pz ++ X).getD j 0))) := by
  rcases h with ⟨rfl, rfl⟩ | h
  · exact ⟨_, _, rfl, fun _ => ⟨gp, rfl, fun j hj => by rw [Nat.zero_add, List.append_nil]; exact hpc j (by simpa using hj)⟩⟩
  · rcases h.2 with ⟨hv, h0⟩ | ⟨g, cap, cur, hv, _⟩
    · exact ⟨none, 0, by rw [hv, h0], fun hpos => absurd hpos (by omega)⟩
    · subst hv
      refine ⟨_, _, rfl, fun _ => ⟨g, rfl, fun j hj => ?_⟩⟩
      have hlen : (Pz ++ X).length = np + X.length := by simp [hP]
      rw [Nat.zero_add, h.cellAt j (by omega), List.getElem?_map, List.getElem?_eq_getElem (by omega)]
      simp [List.getD, List.getElem?_eq_getElem (show j < (Pz ++ X).length by omega)]

/-- slices.Equal at two slices that hold one list -/
theorem equal_same {w : World} {a1 a2 : Option Addr} {n c1 c2 : Nat} {f : Nat → Int} (hn : n ≤ 9223372036854775807) (h1 : 0 < n → ∃ g o, a1 = some ⟨g, o, none⟩ ∧ ∀ j, j < n → w.cell? ⟨g, o + j, none⟩ = some (.int .i64 (f j)))
    (h2 : 0 < n → ∃ g o, a2 = some ⟨g, o, none⟩ ∧ ∀ j, j < n → w.cell? ⟨g, o + j, none⟩ = some (.int .i64 (f j))) :
    Calls Yba.prog 7 #[.slice a1 n c1, .slice a2 n c2] w fun e w' => e = .returned (.bool true) ∧ ∃ q, w' = w.drewN q := by
  by_cases h0 : n = 0
  · subst h0
    refine (equal_zero a1 a2 c1 c2 w).mono ?_
    rintro e w' ⟨rfl, rfl⟩
    exact ⟨rfl, 0, rfl⟩
  · obtain ⟨g1, o1, rfl, k1⟩ := h1 (by omega)
    obtain ⟨g2, o2, rfl, k2⟩ := h2 (by omega)
    exact equal_rows g1 o1 g2 o2 n c1 c2 f w hn k1 k2


theorem pick_cases {D : Nums} {above : Int} {c k : Nat} {Z : Nat → Nat → Nat} {la ea rk : Int} (h1 : D.lat c = la) (h2 : D.ear c = ea) (h3 : D.rk (D.X c (Plan.pl (Z c) k)) = rk) :
    (la < (Plan.pl (Z c) k : Int) → (Plan.pl (Z c) k : Int) < ea → above < rk → Sel.selTo D above c (Plan.pl (Z c)) (k + 1) = Sel.selTo D above c (Plan.pl (Z c)) k ++ [rk]) ∧
    (¬ (la < (Plan.pl (Z c) k : Int) ∧ (Plan.pl (Z c) k : Int) < ea ∧ above < rk) → Sel.selTo D above c (Plan.pl (Z c)) (k + 1) = Sel.selTo D above c (Plan.pl (Z c)) k) := by
  subst h1 h2 h3
  exact ⟨fun a b d => Sel.selTo_hit D above c _ k a b d, fun h => Sel.selTo_miss D above c _ k h⟩

end Go.Proofs.Ybulkbhpq
