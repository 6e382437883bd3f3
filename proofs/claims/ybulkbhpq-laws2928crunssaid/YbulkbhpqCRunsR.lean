/- Laws on the rows that LawS2928CRuns lays for its runs. -/
import Derived.Test.YbulkbhpqCRunsA
namespace Go.Proofs.Ybulkbhpq
open Go.RowKit
set_option linter.unusedVariables false
set_option linter.unusedSimpArgs false
attribute [local go_sem] alloc_drewN setCell_drewN


theorem info42 : (Yba.prog.info? 42).map (fun i => (i.zero, i.size, i.bytes)) = some (some (.agg #[.int .i32 0, .int .i32 0]), 2, 8) := by kernel_rfl

/-- 'make(run, m)' in every world -/
theorem make_run (m : Nat) (hm : m ≤ 300) (w : World) : (Instr.makeSlice 40 (.int .i64 (m : Int)) (.int .i64 (m : Int))).run Yba.prog w = .ok (.slice (some ⟨w.heap.size, 0, none⟩) m m) (w.alloc (.cells (madeCells #[.int .i32 0, .int .i32 0] (m * 2)) 42)) := by
  obtain ⟨i0, hi, hz0, hz1, hz2⟩ := info_parts info42
  have h := run_make (P := Yba.prog) w 40 42 i0 _ Yba.underlying40 hi hz0 .i64 .i64 (m : Int) (m : Int) (by omega) (by omega) (by rw [hz2]; omega) (by omega)
  rw [hz1] at h
  simpa [Value.cells] using h

theorem made_run (w : World) (m : Nat) : (w.alloc (.cells (madeCells #[.int .i32 0, .int .i32 0] (m * 2)) 42)).rowIs w.heap.size 42 (m * 2) (fun _ => .int .i32 0) := by
  refine ⟨_, Go.Deep.blk_alloc_new _ _, size_madeCells _ _, fun i hi => ?_⟩
  rcases Nat.mod_two_eq_zero_or_one i with h | h <;> simp [madeCells, hi, h]

/-- cell j of run i -/
def runCell (Z : Nat → Nat → Nat) (i j : Nat) : Value := if j % 2 = 0 then .int .i32 (i : Int) else .int .i32 (Plan.pl (Z i) (j / 2) : Int)

theorem run_fill {w : World} {b n k : Nat} {Z : Nat → Nat → Nat} {c : Nat} {v0 v1 : Value} (h : w.rowIs b 42 n (fun j => if j < k * 2 then runCell Z c j else .int .i32 0)) (h0 : v0 = .int .i32 (c : Int)) (h1 : v1 = .int .i32 (Plan.pl (Z c) k : Int)) :
    ((w.setCell ⟨b, k * 2, none⟩ v0).setCell ⟨b, k * 2 + 1, none⟩ v1).rowIs b 42 n (fun j => if j < (k + 1) * 2 then runCell Z c j else .int .i32 0) :=
  ((h.set (k * 2) v0).set (k * 2 + 1) v1).congr (fun j _ => by
    by_cases e1 : j = k * 2 + 1
    · subst e1
      have a1 : k * 2 + 1 < (k + 1) * 2 := by omega
      have a2 : (k * 2 + 1) % 2 = 1 := by omega
      have a3 : (k * 2 + 1) / 2 = k := by omega
      simp [a1, runCell, a2, a3, h1]
    · by_cases e0 : j = k * 2
      · subst e0
        have a1 : k * 2 < (k + 1) * 2 := by omega
        simp [a1, runCell, h0]
      · by_cases e2 : j < k * 2
        · have a1 : j < (k + 1) * 2 := by omega
          simp [e0, e1, e2, a1]
        · have a1 : ¬ j < (k + 1) * 2 := by omega
          simp [e0, e1, e2, a1])

/-- behind c rounds of the loop that lays the runs -/
structure Ph4 (RR nc : Nat) (M : Nat → Nat) (Z : Nat → Nat → Nat) (RB : Nat → Nat) (v : Value) (c : Nat) (w : World) : Prop where
  rr : w.rowIs RR 40 nc (fun i => if i < c then .slice (some ⟨RB i, 0, none⟩) (M i) (M i) else .slice none 0 0)
  rb : ∀ i, i < c → w.rowIs (RB i) 42 (M i * 2) (runCell Z i)
  own : w.ownsRow (RR + 1) 40 1 v ((c + 1) / 2) ((List.range ((c + 1) / 2)).map fun r => .slice (some ⟨RB (2 * r), 0, none⟩) (M (2 * r)) (M (2 * r)))

theorem rowIs_type {w : World} {b : Nat} {t t' : TypeId} {n n' : Nat} {f f' : Nat → Value} (h : w.rowIs b t n f) (h' : w.rowIs b t' n' f') : t = t' := by
  obtain ⟨c, hb, _⟩ := h
  obtain ⟨c', hb', _⟩ := h'
  rw [hb] at hb'
  simp at hb'
  exact hb'.2

theorem own_ne {w : World} {base : Nat} {e t : TypeId} {size : Nat} {v : Value} {n : Nat} {xs : List Value} {b m : Nat} {f : Nat → Value} (h : w.ownsRow base e size v n xs) (hr : w.rowIs b t m f) (hne : t ≠ e) : some b ≠ v.ownBlock := by
  rcases h.2 with ⟨rfl, _⟩ | ⟨g, cap, cur, rfl, _, hh, _⟩
  · simp [Value.ownBlock]
  · intro he
    simp [Value.ownBlock] at he
    subst he
    obtain ⟨c, hb, _⟩ := hr
    rw [hh] at hb
    simp at hb
    exact hne hb.2.symm

theorem own_below {w w' : World} {base : Nat} {e : TypeId} {size : Nat} {v : Value} {n : Nat} {xs : List Value} (h : w.ownsRow base e size v n xs) (hb : Below w.heap.size w w') : w'.ownsRow base e size v n xs := by
  refine ⟨h.1, ?_⟩
  rcases h.2 with h2 | ⟨g, cap, cur, hv, hg, hh, r⟩
  · exact .inl h2
  · exact .inr ⟨g, cap, cur, hv, hg, (hb.block g (Array.getElem?_eq_some_iff.1 hh).1).trans hh, r⟩

theorem cell_one_set (w : World) (a : Addr) (y x : Value) (t : TypeId) : ∀ j u, [x][j]? = some u → ((w.setCell a y).alloc (.cells #[x] t)).cell? ((⟨w.heap.size, 0, none⟩ : Addr).add j) = some u := by
  intro j u hj
  match j, hj with
  | 0, hj =>
    simp at hj
    subst hj
    rw [add_zero_plain, World.cell?_alloc_at #[x] t _ 0 (by simp [World.setCell])]
    rfl

/-- the new function of blocks -/
def upd (RB : Nat → Nat) (c b : Nat) : Nat → Nat := fun i => if i = c then b else RB i

/-- run c is laid and stored; nothing is appended (c odd) -/
theorem ph4_odd {RR nc : Nat} {M : Nat → Nat} {Z : Nat → Nat → Nat} {RB : Nat → Nat} {v : Value} {c : Nat} {w7 w8 : World} (h : Ph4 RR nc M Z RB v c w7) (hpar : c % 2 = 1) (hb : Below w7.heap.size w7 w8) (hr : w8.rowIs w7.heap.size 42 (M c * 2) (runCell Z c)) :
    Ph4 RR nc M Z (upd RB c w7.heap.size) v (c + 1) (w8.setCell ⟨RR, c, none⟩ (.slice (some ⟨w7.heap.size, 0, none⟩) (M c) (M c))) := by
  have hRR := h.rr.lt
  refine ⟨?_, ?_, ?_⟩
  · refine (row_fill (f := fun i => .slice (some ⟨upd RB c w7.heap.size i, 0, none⟩) (M i) (M i)) ((rowIs_below h.rr hb).congr (fun i _ => ?_)) (by simp [upd]))
    by_cases e : i < c
    · have : i ≠ c := by omega
      simp [e, upd, this]
    · simp [e]
  · intro i hi
    by_cases e : i = c
    · subst e
      simp only [upd, if_true]
      exact hr.setOther (by simp; omega) _
    · simp only [upd, e, if_false]
      have h1 := rowIs_below (h.rb i (by omega)) hb
      refine h1.setOther (fun e' => ?_) _
      have h2 := rowIs_below h.rr hb
      rw [show RB i = RR from e'] at h1
      exact absurd (rowIs_type h1 h2) (by decide)
  · have e : (c + 1 + 1) / 2 = (c + 1) / 2 := by omega
    rw [e]
    have hl : (List.range ((c + 1) / 2)).map (fun r => Value.slice (some ⟨upd RB c w7.heap.size (2 * r), 0, none⟩) (M (2 * r)) (M (2 * r))) = (List.range ((c + 1) / 2)).map (fun r => Value.slice (some ⟨RB (2 * r), 0, none⟩) (M (2 * r)) (M (2 * r))) := by
      refine List.map_congr_left fun r hr => ?_
      have : 2 * r ≠ c := by have := List.mem_range.1 hr; omega
      simp [upd, this]
    rw [hl]
    exact ownsRow_setCell_below (own_below h.own hb) (by simp) _

/-- .. and appended (c even) -/
theorem ph4_even {RR nc : Nat} {M : Nat → Nat} {Z : Nat → Nat → Nat} {RB : Nat → Nat} {v v' : Value} {c : Nat} {w7 w8 w9 : World} {o : Obj} (h : Ph4 RR nc M Z RB v c w7) (hpar : c % 2 = 0) (hb : Below w7.heap.size w7 w8) (hr : w8.rowIs w7.heap.size 42 (M c * 2) (runCell Z c))
    (hg : ((w8.setCell ⟨RR, c, none⟩ (.slice (some ⟨w7.heap.size, 0, none⟩) (M c) (M c))).alloc o).grownBy w9 v.ownBlock)
    (ho : w9.ownsRow (RR + 1) 40 1 v' ((c + 1) / 2 + 1) ((List.range ((c + 1) / 2)).map (fun r => Value.slice (some ⟨RB (2 * r), 0, none⟩) (M (2 * r)) (M (2 * r))) ++ [.slice (some ⟨w7.heap.size, 0, none⟩) (M c) (M c)])) :
    Ph4 RR nc M Z (upd RB c w7.heap.size) v' (c + 1) w9 := by
  have hRR := h.rr.lt
  have keep : ∀ {b : Nat} {t : TypeId} {n : Nat} {f : Nat → Value}, (w8.setCell ⟨RR, c, none⟩ (.slice (some ⟨w7.heap.size, 0, none⟩) (M c) (M c))).rowIs b t n f → some b ≠ v.ownBlock → w9.rowIs b t n f := by
    intro b t n f hrow hne
    have h2 := hrow.alloc o
    exact h2.of_block (hg.block b h2.lt hne)
  have hown8 : (w8.setCell ⟨RR, c, none⟩ (.slice (some ⟨w7.heap.size, 0, none⟩) (M c) (M c))).ownsRow (RR + 1) 40 1 v ((c + 1) / 2) _ := ownsRow_setCell_below (own_below h.own hb) (by simp) _
  refine ⟨?_, ?_, ?_⟩
  · refine keep ?_ (fun e => ?_)
    · refine (row_fill (f := fun i => .slice (some ⟨upd RB c w7.heap.size i, 0, none⟩) (M i) (M i)) ((rowIs_below h.rr hb).congr (fun i _ => ?_)) (by simp [upd]))
      by_cases e : i < c
      · have : i ≠ c := by omega
        simp [e, upd, this]
      · simp [e]
    · have := (hown8.lt _ e.symm).1
      omega
  · intro i hi
    have hrow : (w8.setCell ⟨RR, c, none⟩ (.slice (some ⟨w7.heap.size, 0, none⟩) (M c) (M c))).rowIs (upd RB c w7.heap.size i) 42 (M i * 2) (runCell Z i) := by
      by_cases e : i = c
      · subst e
        simp only [upd, if_true]
        exact hr.setOther (by simp; omega) _
      · simp only [upd, e, if_false]
        have h1 := rowIs_below (h.rb i (by omega)) hb
        refine h1.setOther (fun e' => ?_) _
        have h2 := rowIs_below h.rr hb
        rw [show RB i = RR from e'] at h1
        exact absurd (rowIs_type h1 h2) (by decide)
    exact keep hrow (own_ne hown8 hrow (by decide))
  · have e : (c + 1 + 1) / 2 = (c + 1) / 2 + 1 := by omega
    have e2 : 2 * ((c + 1) / 2) = c := by omega
    rw [e, List.range_succ, List.map_append, List.map_singleton, e2]
    have hl : (List.range ((c + 1) / 2)).map (fun r => Value.slice (some ⟨upd RB c w7.heap.size (2 * r), 0, none⟩) (M (2 * r)) (M (2 * r))) = (List.range ((c + 1) / 2)).map (fun r => Value.slice (some ⟨RB (2 * r), 0, none⟩) (M (2 * r)) (M (2 * r))) := by
      refine List.map_congr_left fun r hr => ?_
      have : 2 * r ≠ c := by have := List.mem_range.1 hr; omega
      simp [upd, this]
    rw [hl]
    simpa [upd] using ho

end Go.Proofs.Ybulkbhpq
