/- The plain part of LawS2928CRuns: no Go in sight. -/
namespace Go.Proofs.Ybulkbhpq
/-- the blocks and numbers of the structures that unorderedOnRuns reads -/
structure Nums where
  (S G CT LB EB W RK n CH nc : Nat)
  (CB L : Nat → Nat)
  (X : Nat → Nat → Nat)
  (rk : Nat → Int)
  (lat ear : Nat → Int)

namespace Sel
/-- what place p of chain c gives -/
def pick (D : Nums) (above : Int) (c p : Nat) : List Int :=
  if D.lat c < (p : Int) ∧ (p : Int) < D.ear c ∧ above < D.rk (D.X c p) then [D.rk (D.X c p)] else []
/-- what the first k places of a run give -/
def selTo (D : Nums) (above : Int) (c : Nat) (pos : Nat → Nat) : Nat → List Int
  | 0 => []
  | k + 1 => selTo D above c pos k ++ pick D above c (pos k)
/-- what the first r runs give -/
def outTo (D : Nums) (above : Int) (ch : Nat → Nat) (pos : Nat → Nat → Nat) (m : Nat → Nat) : Nat → List Int
  | 0 => []
  | r + 1 => outTo D above ch pos m r ++ selTo D above (ch r) (pos r) (m r)

theorem pick_len (D : Nums) (above : Int) (c p : Nat) : (pick D above c p).length ≤ 1 := by unfold pick; split <;> simp
theorem selTo_len (D : Nums) (above : Int) (c : Nat) (pos : Nat → Nat) (k : Nat) : (selTo D above c pos k).length ≤ k := by
  induction k with
  | zero => exact Nat.le_refl _
  | succ k ih => rw [selTo, List.length_append]; have := pick_len D above c (pos k); omega
theorem outTo_len (D : Nums) (above : Int) (ch : Nat → Nat) (pos : Nat → Nat → Nat) (m : Nat → Nat) (r : Nat) (h : ∀ i, i < r → m i ≤ 300) : (outTo D above ch pos m r).length ≤ r * 300 := by
  induction r with
  | zero => exact Nat.le_refl _
  | succ r ih =>
    rw [outTo, List.length_append]
    have h1 := ih (fun i hi => h i (by omega))
    have h2 := selTo_len D above (ch r) (pos r) (m r)
    have h3 := h r (by omega)
    omega
theorem selTo_low (D : Nums) (above : Int) (c : Nat) (pos : Nat → Nat) (i : Nat) (h : ∀ k, k < i → (pos k : Int) ≤ D.lat c) : selTo D above c pos i = [] := by
  induction i with
  | zero => rfl
  | succ i ih =>
    rw [selTo, ih (fun k hk => h k (by omega)), pick, if_neg (fun hh => by have := h i (by omega); omega)]
    rfl
theorem selTo_high (D : Nums) (above : Int) (c : Nat) (pos : Nat → Nat) (i : Nat) (t : Nat) (h : ∀ k, i ≤ k → k < i + t → D.ear c ≤ (pos k : Int)) : selTo D above c pos (i + t) = selTo D above c pos i := by
  induction t with
  | zero => rfl
  | succ t ih =>
    rw [← Nat.add_assoc, selTo, ih (fun k h1 h2 => h k h1 (by omega)), pick, if_neg (fun hh => by have := h (i + t) (by omega) (by omega); omega)]
    simp
/-- at the end of the two prefixes' range -/
theorem selTo_end (D : Nums) (above : Int) (c : Nat) (pos : Nat → Nat) (M m : Nat) (hM : M ≤ m) (h : ∀ k, M ≤ k → k < m → D.ear c ≤ (pos k : Int)) : selTo D above c pos m = selTo D above c pos M := by
  have e : m = M + (m - M) := by omega
  rw [e]; exact selTo_high D above c pos M (m - M) (fun k h1 h2 => h k h1 (by omega))
theorem selTo_hit (D : Nums) (above : Int) (c : Nat) (pos : Nat → Nat) (k : Nat) (h1 : D.lat c < (pos k : Int)) (h2 : (pos k : Int) < D.ear c) (h3 : above < D.rk (D.X c (pos k))) :
    selTo D above c pos (k + 1) = selTo D above c pos k ++ [D.rk (D.X c (pos k))] := by rw [selTo, pick, if_pos ⟨h1, h2, h3⟩]
theorem selTo_miss (D : Nums) (above : Int) (c : Nat) (pos : Nat → Nat) (k : Nat) (h : ¬ (D.lat c < (pos k : Int) ∧ (pos k : Int) < D.ear c ∧ above < D.rk (D.X c (pos k)))) :
    selTo D above c pos (k + 1) = selTo D above c pos k := by rw [selTo, pick, if_neg h]; simp

/-- what the model gathers over the first c chains; all of them, or the even ones -/
def wantTo (D : Nums) (above : Int) (all : Bool) (pos : Nat → Nat → Nat) (m : Nat → Nat) : Nat → List Int
  | 0 => []
  | c + 1 => if all = false ∧ c % 2 ≠ 0 then wantTo D above all pos m c else wantTo D above all pos m c ++ selTo D above c (pos c) (m c)
theorem want_all (D : Nums) (above : Int) (pos : Nat → Nat → Nat) (m : Nat → Nat) (c : Nat) : wantTo D above true pos m c = outTo D above (fun r => r) pos m c := by
  induction c with
  | zero => rfl
  | succ c ih => rw [wantTo, if_neg (by simp), ih, outTo]
theorem want_even (D : Nums) (above : Int) (pos : Nat → Nat → Nat) (m : Nat → Nat) (r : Nat) :
    wantTo D above false pos m (2 * r) = outTo D above (fun r => 2 * r) (fun r => pos (2 * r)) (fun r => m (2 * r)) r := by
  induction r with
  | zero => rfl
  | succ r ih =>
    rw [show 2 * (r + 1) = (2 * r + 1) + 1 from by omega, wantTo, if_pos ⟨rfl, by omega⟩, wantTo, if_neg (fun h => h.2 (by omega)), ih, outTo]
theorem want_even_all (D : Nums) (above : Int) (pos : Nat → Nat → Nat) (m : Nat → Nat) (c : Nat) :
    wantTo D above false pos m c = outTo D above (fun r => 2 * r) (fun r => pos (2 * r)) (fun r => m (2 * r)) ((c + 1) / 2) := by
  rcases Nat.mod_two_eq_zero_or_one c with h | h
  · have e : c = 2 * (c / 2) := by omega
    have e2 : (c + 1) / 2 = c / 2 := by omega
    rw [e2]; conv => lhs; rw [e]
    exact want_even D above pos m (c / 2)
  · have e : c = 2 * (c / 2) + 1 := by omega
    have e2 : (c + 1) / 2 = c / 2 + 1 := by omega
    rw [e2]; conv => lhs; rw [e]
    rw [wantTo, if_neg (fun h => h.2 (by omega)), want_even, outTo]
theorem want_len (D : Nums) (above : Int) (all : Bool) (pos : Nat → Nat → Nat) (m : Nat → Nat) (c : Nat) (h : ∀ i, i < c → m i ≤ 300) : (wantTo D above all pos m c).length ≤ c * 300 := by
  induction c with
  | zero => exact Nat.le_refl _
  | succ c ih =>
    have h1 := ih (fun i hi => h i (by omega))
    have h2 := selTo_len D above c (pos c) (m c)
    have h3 := h c (by omega)
    have e : (c + 1) * 300 = c * 300 + 300 := by omega
    rw [wantTo, e]
    by_cases hq : all = false ∧ c % 2 ≠ 0
    · rw [if_pos hq]; exact Nat.le_trans h1 (Nat.le_add_right _ _)
    · rw [if_neg hq, List.length_append]; exact Nat.add_le_add h1 (Nat.le_trans h2 h3)
end Sel
end Go.Proofs.Ybulkbhpq
