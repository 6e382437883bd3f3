/- The plain part of LawS2928AExact, more: the same numbers sorted, the written items each once, the row of standings entry by entry. -/
import Derived.Test.YbulkbhpqDoorModel
namespace Go.Proofs.YbulkbhpqDoor.Plain
set_option linter.unusedVariables false

theorem bestTo_le_of (z s : Nat → Nat) (at' : Int) (n : Nat) (hmem : ∀ j, j < n → ∃ i, i < n ∧ z j = s i) : bestTo s at' n ≤ bestTo z at' n := by
  rcases bestTo_is z at' n with h | ⟨j, h1, h2, h3⟩
  · rw [h]; exact bestTo_le _ _ _
  · obtain ⟨i, hi, he⟩ := hmem j h1
    rw [h3, he]
    exact bestTo_lb s at' n i hi (by rw [← he]; exact h2)
/-- the least of the same numbers is the same -/
theorem bestTo_same (z s : Nat → Nat) (at' : Int) (n : Nat) (hmem1 : ∀ i, i < n → ∃ j, j < n ∧ s i = z j) (hmem2 : ∀ j, j < n → ∃ i, i < n ∧ z j = s i) : bestTo s at' n = bestTo z at' n := by
  have a := bestTo_le_of z s at' n hmem2
  have b := bestTo_le_of s z at' n hmem1
  omega

/-- the law's txw: the items that are written, each once, in the order of their first writes -/
def txTo (x : Nat → Nat) : Nat → List Nat
  | 0 => []
  | k + 1 => if x k ∈ txTo x k then txTo x k else txTo x k ++ [x k]
theorem tx_nodup (x : Nat → Nat) (k : Nat) : (txTo x k).Nodup := by
  induction k with
  | zero => simp [txTo]
  | succ k ih =>
    rw [txTo]
    split
    · exact ih
    · rename_i hm
      rw [List.nodup_append]
      exact ⟨ih, by simp, fun y hy z hz => by simp at hz; subst hz; intro e; subst e; exact hm hy⟩
theorem tx_lt (x : Nat → Nat) (h : ∀ k, x k < 4) (k : Nat) : ∀ y, y ∈ txTo x k → y < 4 := by
  induction k with
  | zero => intro y hy; simp [txTo] at hy
  | succ k ih =>
    rw [txTo]
    split
    · exact ih
    · intro y hy
      simp only [List.mem_append, List.mem_singleton] at hy
      rcases hy with hy | rfl
      · exact ih y hy
      · exact h k
theorem nodup_lt_length (n : Nat) : ∀ l : List Nat, l.Nodup → (∀ y, y ∈ l → y < n) → l.length ≤ n := by
  induction n with
  | zero =>
    intro l _ h
    match l with
    | [] => simp
    | a :: l => have := h a (by simp); omega
  | succ n ih =>
    intro l hn h
    by_cases hm : n ∈ l
    · have h1 := ih (l.erase n) (hn.erase n) (fun y hy => by
        have := (hn.mem_erase_iff).1 hy
        have := h y this.2
        omega)
      rw [List.length_erase_of_mem hm] at h1
      omega
    · have := ih l hn (fun y hy => by
        have := h y hy
        have : y ≠ n := fun e => hm (e ▸ hy)
        omega)
      omega
theorem tx_len (x : Nat → Nat) (h : ∀ k, x k < 4) (k : Nat) : (txTo x k).length ≤ 4 := nodup_lt_length 4 _ (tx_nodup x k) (tx_lt x h k)

theorem now_get_lt {tx : List Nat} (sa : Nat → Int) (sf : Nat → Bool) (s : St) {i x : Nat} (h : tx[i]? = some x) : (nowL tx sa sf s)[i]? = some (entW s x) := by
  have hi : i < tx.length := (List.getElem?_eq_some_iff.1 h).1
  unfold nowL
  rw [List.getElem?_append_left (by simpa using hi), List.getElem?_map, h]
  rfl
theorem now_get_ge {tx : List Nat} (sa : Nat → Int) (sf : Nat → Bool) (s : St) {i x : Nat} (hi : tx.length ≤ i) (h : s.ro[i - tx.length]? = some x) : (nowL tx sa sf s)[i]? = some (entR sa sf s x) := by
  unfold nowL
  rw [List.getElem?_append_right (by simpa using hi), List.getElem?_map, List.length_map, h]
  rfl
theorem out_fr_bound {tx : List Nat} {s : St} (h : Inv tx s) (x : Nat) : -1 ≤ s.fr x ∧ s.fr x ≤ 255 := by
  have := h.low x
  have := h.high x
  omega
theorem stp_fr {tx : List Nat} {s : St} {x : Nat} {a : Int} (h : s.fr x < 0) (y : Nat) : (stp tx s x a).fr y = if y = x then a else s.fr y := by unfold stp; rw [if_pos h]
theorem stp_in {tx : List Nat} {s : St} {x : Nat} (a : Int) (h : s.fr x < 0) (hm : x ∈ tx) : (stp tx s x a).ro = s.ro := by unfold stp; rw [if_pos h]; exact if_pos hm
theorem stp_out {tx : List Nat} {s : St} {x : Nat} (a : Int) (h : s.fr x < 0) (hm : x ∉ tx) : (stp tx s x a).ro = s.ro ++ [x] := by unfold stp; rw [if_pos h]; exact if_neg hm

/- the sorted row -/
def ints (z : Nat → Nat) (n : Nat) : List Int := (List.range n).map (fun j => (z j : Int))
def sortL (z : Nat → Nat) (n : Nat) : List Int := (ints z n).mergeSort (fun x y => decide (x ≤ y))
def soF (z : Nat → Nat) (n k : Nat) : Nat := ((sortL z n).getD k 0).toNat
theorem ints_length (z : Nat → Nat) (n : Nat) : (ints z n).length = n := by simp [ints]
theorem sortL_length (z : Nat → Nat) (n : Nat) : (sortL z n).length = n := by simp [sortL, ints]
theorem ints_mem (z : Nat → Nat) (n : Nat) (v : Int) : v ∈ ints z n ↔ ∃ j, j < n ∧ (z j : Int) = v := by simp [ints]
theorem sortL_mem (z : Nat → Nat) (n : Nat) (v : Int) : v ∈ sortL z n ↔ ∃ j, j < n ∧ (z j : Int) = v := by
  unfold sortL; rw [List.mem_mergeSort, ints_mem]
theorem soF_get (z : Nat → Nat) (n k : Nat) (hk : k < n) : (sortL z n)[k]? = some (soF z n k : Int) := by
  have hl : k < (sortL z n).length := by rw [sortL_length]; exact hk
  have hm : (sortL z n)[k] ∈ sortL z n := List.getElem_mem hl
  obtain ⟨j, _, hj⟩ := (sortL_mem z n _).1 hm
  rw [List.getElem?_eq_getElem hl]
  unfold soF
  rw [List.getD_eq_getElem?_getD, List.getElem?_eq_getElem hl, ← hj]
  simp
theorem soF_mem1 (z : Nat → Nat) (n : Nat) : ∀ i, i < n → ∃ j, j < n ∧ soF z n i = z j := by
  intro i hi
  have hm := List.mem_of_getElem? (soF_get z n i hi)
  obtain ⟨j, hj, he⟩ := (sortL_mem z n _).1 hm
  exact ⟨j, hj, by omega⟩
theorem soF_mem2 (z : Nat → Nat) (n : Nat) : ∀ j, j < n → ∃ i, i < n ∧ z j = soF z n i := by
  intro j hj
  have hm := (sortL_mem z n _).2 ⟨j, hj, rfl⟩
  obtain ⟨i, hi⟩ := List.mem_iff_getElem?.1 hm
  have hl : i < n := by have := (List.getElem?_eq_some_iff.1 hi).1; rw [sortL_length] at this; exact this
  rw [soF_get z n i hl] at hi
  simp at hi
  exact ⟨i, hl, by omega⟩
theorem soF_mono (z : Nat → Nat) (n : Nat) : ∀ i j, i ≤ j → j < n → soF z n i ≤ soF z n j := by
  intro i j hij hj
  by_cases e : i = j
  · subst e; exact Nat.le_refl _
  · have hp : (sortL z n).Pairwise (fun x y => decide (x ≤ y) = true) := List.pairwise_mergeSort (le := fun (x y : Int) => decide (x ≤ y)) (fun a b c h1 h2 => by simp at h1 h2 ⊢; omega) (fun a b => by simp; omega) _
    have h1 := soF_get z n i (by omega)
    have h2 := soF_get z n j hj
    obtain ⟨l1, e1⟩ := List.getElem?_eq_some_iff.1 h1
    obtain ⟨l2, e2⟩ := List.getElem?_eq_some_iff.1 h2
    have := List.pairwise_iff_getElem.1 hp i j l1 l2 (by omega)
    rw [e1, e2] at this
    simp at this
    exact this
end Go.Proofs.YbulkbhpqDoor.Plain
