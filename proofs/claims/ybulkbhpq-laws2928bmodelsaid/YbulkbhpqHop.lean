/- The plain part of LawS2928BModel: no Go in sight. -/
namespace Go.Proofs.Ybulkbhpq.Hop
/-- the latest of -1 and the first k reads -/
def lat (R : Nat → Int) : Nat → Int
  | 0 => -1
  | k + 1 => max (lat R k) (R k)
/-- of the first k places those whose write stands above l, in increasing order -/
def hop (A : Nat → Int) (l : Int) : Nat → List Int
  | 0 => []
  | k + 1 => if l < A k then hop A l k ++ [(k : Int)] else hop A l k
theorem hop_len (A : Nat → Int) (l : Int) (k : Nat) : (hop A l k).length ≤ k := by
  induction k with
  | zero => exact Nat.le_refl _
  | succ k ih =>
    rw [hop]; split
    · simp; omega
    · omega
theorem hop_hit (A : Nat → Int) (l : Int) (k : Nat) (h : l < A k) : hop A l (k + 1) = hop A l k ++ [(k : Int)] := by rw [hop, if_pos h]
theorem hop_miss (A : Nat → Int) (l : Int) (k : Nat) (h : ¬ l < A k) : hop A l (k + 1) = hop A l k := by rw [hop, if_neg h]
theorem lat_if (R : Nat → Int) (k : Nat) : (if lat R k < R k then R k else lat R k) = lat R (k + 1) := by
  rw [lat]; split <;> omega
theorem lat_yes (R : Nat → Int) (j : Nat) (x : Int) (h : x ≤ R j) : decide (lat R (j + 1) < x) = false := by
  rw [lat]; simp; omega
theorem lat_no (R : Nat → Int) (j : Nat) (x : Int) (h : ¬ x ≤ R j) : decide (lat R (j + 1) < x) = decide (lat R j < x) := by
  rw [lat, decide_eq_decide]; omega
theorem lat_bd (R : Nat → Int) (k : Nat) (h : ∀ i, i < k → R i ≤ 9223372036854775807) : -1 ≤ lat R k ∧ lat R k ≤ 9223372036854775807 := by
  induction k with
  | zero => exact ⟨Int.le_refl _, by simp [lat]⟩
  | succ k ih =>
    have := ih (fun i hi => h i (by omega))
    have := h k (by omega)
    rw [lat]; omega
end Go.Proofs.Ybulkbhpq.Hop
