/- The plain part of LawS2928CRuns (2): the places of the chains, the numbers of the transactions. -/
import Derived.Test.YbulkbhpqSel
namespace Go.Proofs.Ybulkbhpq.Plan
/-- one behind the last place after k steps -/
def en (Z : Nat → Nat) : Nat → Nat
  | 0 => 0
  | k + 1 => en Z k + 1 + Z k % 4
/-- the k-th place -/
def pl (Z : Nat → Nat) (k : Nat) : Nat := en Z k + Z k % 4
theorem en_le (Z : Nat → Nat) (k : Nat) : en Z k ≤ 4 * k := by
  induction k with
  | zero => exact Nat.le_refl _
  | succ k ih => rw [en]; omega
theorem en_mono (Z : Nat → Nat) (i j : Nat) (h : i ≤ j) : en Z i ≤ en Z j := by
  induction j with
  | zero =>
            have : i = 0 := by omega
            rw [this]; exact Nat.le_refl _
  | succ j ih =>
    by_cases e : i = j + 1
    · rw [e]; exact Nat.le_refl _
    · have := ih (by omega); rw [en]; omega
theorem pl_lt (Z : Nat → Nat) (k m : Nat) (h : k < m) : pl Z k < en Z m := by
  have := en_mono Z (k + 1) m h
  rw [en] at this; unfold pl; omega
theorem pl_mono (Z : Nat → Nat) (i j : Nat) (h : i < j) : pl Z i < pl Z j := by
  have h1 := pl_lt Z i j h
  unfold pl at *; omega
/-- the first number of chain c -/
def st (L : Nat → Nat) : Nat → Nat
  | 0 => 1
  | c + 1 => st L c + L c
theorem st_mono (L : Nat → Nat) (i j : Nat) (h : i ≤ j) : st L i ≤ st L j := by
  induction j with
  | zero =>
            have : i = 0 := by omega
            rw [this]; exact Nat.le_refl _
  | succ j ih =>
    by_cases e : i = j + 1
    · rw [e]; exact Nat.le_refl _
    · have := ih (by omega); rw [st]; omega
theorem st_le (L : Nat → Nat) (c : Nat) (h : ∀ i, i < c → L i ≤ 1200) : st L c ≤ 1 + c * 1200 := by
  induction c with
  | zero => exact Nat.le_refl _
  | succ c ih =>
    have h1 := ih (fun i hi => h i (by omega))
    have h2 := h c (by omega)
    rw [st]; omega
theorem st_pos (L : Nat → Nat) (c : Nat) : 1 ≤ st L c := st_mono L 0 c (Nat.zero_le _)
theorem txn_lt (L : Nat → Nat) (c nc q : Nat) (hc : c < nc) (hq : q < L c) : st L c + q < st L nc := by
  have := st_mono L (c + 1) nc hc
  rw [st] at this; omega
end Go.Proofs.Ybulkbhpq.Plan
