/- slices.Sort (4) at the law's row of ints. -/
import Derived.Test.YbulkbhpqDoorShelf
import Derived.Test.YbulkbhpqDoorLawC
namespace Go.Proofs.YbulkbhpqDoor
open Go.RowKit Go.Sort Plain
set_option linter.unusedVariables false
set_option linter.unusedSimpArgs false

theorem sort_any (b n cap : Nat) (z : Nat → Nat) (w : World) (hr : w.rowIs b 3 n (fun j => .int .i64 (z j : Int))) (hn : n ≤ 1024) :
    Calls Ybad.prog 4 #[.slice (some ⟨b, 0, none⟩) n cap] w fun e w' => e = .returned (.tuple #[]) ∧ w'.rowIs b 3 n (fun j => .int .i64 (soF z n j : Int)) ∧ Below b w w' := by
  have hl := ints_length z n
  have hlt := hr.lt
  have hH : Holds (Value.int .i64) w b 0 (ints z n).toArray := by
    intro j hj
    have hj' : j < n := by simpa [hl] using hj
    refine ⟨?_, hr.frozen _⟩
    rw [Nat.zero_add, hr.cell hj']
    simp [ints, hj']
  have h := slices_Sort_int b 0 cap (ints z n) w hH hlt (by rw [hl]; omega)
  rw [hl] at h
  refine h.mono ?_
  rintro e w' ⟨rfl, q, os, rfl⟩
  refine ⟨rfl, ?_, ?_⟩
  · obtain ⟨c, hb, hc, hv⟩ := hr
    refine ⟨putCells (Value.int .i64) 0 (sortL z n).toArray c, ?_, by simp [putCells, hc], ?_⟩
    · simp only [grow, putRow, mapBlock, Sort.ahead, Array.getElem?_append, Array.size_modify, if_pos hlt, Array.getElem?_modify, if_true, hb, Option.map_some, onCells]
      rfl
    · intro i hi
      have hg := soF_get z n i hi
      simp only [putCells, Array.getElem?_mapIdx, hv i hi, Option.map_some]
      simp [sortL_length, hi]
      exact (List.getElem?_eq_some_iff.1 hg).2
  · refine ⟨rfl, rfl, rfl, by simp [grow, putRow, mapBlock, Sort.ahead], fun k hk => ?_⟩
    simp only [grow, putRow, mapBlock, Sort.ahead, Array.getElem?_append, Array.size_modify, if_pos (show k < w.heap.size by omega), Array.getElem?_modify, if_neg (show ¬ b = k by omega)]
end Go.Proofs.YbulkbhpqDoor
