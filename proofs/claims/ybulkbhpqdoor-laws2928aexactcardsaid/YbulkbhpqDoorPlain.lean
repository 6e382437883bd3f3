/- The plain part of LawS2928AExact: the least element that is not below a place. -/
namespace Go.Proofs.YbulkbhpqDoor.Plain

/-- zzs2928aafter's loop: the least of z 0 .. z (k-1) that is >= at, 2147483647 where none is. -/
def bestTo (z : Nat → Nat) (at' : Int) : Nat → Int
  | 0 => 2147483647
  | k + 1 => if at' ≤ (z k : Int) ∧ (z k : Int) < bestTo z at' k then (z k : Int) else bestTo z at' k

theorem bestTo_le (z : Nat → Nat) (at' : Int) (k : Nat) : bestTo z at' k ≤ 2147483647 := by
  induction k with
  | zero => simp [bestTo]
  | succ k ih => rw [bestTo]; split <;> omega

theorem bestTo_lb (z : Nat → Nat) (at' : Int) (n : Nat) : ∀ j, j < n → at' ≤ (z j : Int) → bestTo z at' n ≤ (z j : Int) := by
  induction n with
  | zero => intro j hj; omega
  | succ k ih =>
    intro j hj ha
    rw [bestTo]
    by_cases e : j = k
    · subst e
      split <;> omega
    · have := ih j (by omega) ha
      split <;> omega

theorem bestTo_is (z : Nat → Nat) (at' : Int) (n : Nat) : bestTo z at' n = 2147483647 ∨ ∃ j, j < n ∧ at' ≤ (z j : Int) ∧ bestTo z at' n = (z j : Int) := by
  induction n with
  | zero => exact .inl rfl
  | succ k ih =>
    rw [bestTo]
    split
    · exact .inr ⟨k, by omega, by omega, rfl⟩
    · rcases ih with h | ⟨j, h1, h2, h3⟩
      · exact .inl h
      · exact .inr ⟨j, by omega, h2, h3⟩

/-- the first of a sorted row that is >= at is the least of the same numbers that is >= at -/
theorem first_is_best (z s : Nat → Nat) (at' : Int) (n k : Nat) (hz : ∀ j, j < n → z j ≤ 255) (hmem1 : ∀ i, i < n → ∃ j, j < n ∧ s i = z j) (hmem2 : ∀ j, j < n → ∃ i, i < n ∧ z j = s i)
    (mono : ∀ i j, i ≤ j → j < n → s i ≤ s j) (hk : k ≤ n) (hlow : ∀ j, j < k → (s j : Int) < at') (hat : k < n → at' ≤ (s k : Int)) :
    bestTo z at' n = if k = n then 2147483647 else (s k : Int) := by
  by_cases e : k = n
  · rw [if_pos e]
    rcases bestTo_is z at' n with h | ⟨j, h1, h2, h3⟩
    · exact h
    · obtain ⟨i, hi, he⟩ := hmem2 j h1
      have := hlow i (by omega)
      rw [he] at h2
      omega
  · rw [if_neg e]
    have hkn : k < n := by omega
    have hak := hat hkn
    obtain ⟨j, hj, hje⟩ := hmem1 k hkn
    have hlb := bestTo_lb z at' n j hj (by rw [← hje]; exact hak)
    have hz1 := hz j hj
    rcases bestTo_is z at' n with h | ⟨q, h1, h2, h3⟩
    · omega
    · obtain ⟨i, hi, he⟩ := hmem2 q h1
      have hik : k ≤ i := by
        rcases Nat.lt_or_ge i k with h | h
        · have := hlow i h
          rw [he] at h2
          omega
        · exact h
      have := mono k i hik hi
      rw [h3, he] at hlb ⊢
      omega
end Go.Proofs.YbulkbhpqDoor.Plain
