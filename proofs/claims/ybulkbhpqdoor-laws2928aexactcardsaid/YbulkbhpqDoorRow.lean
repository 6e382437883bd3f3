/- The row of standings in memory (three cells an entry), and what after (5) is told of its memory. -/
import Derived.Test.YbulkbhpqDoorLeaves2
import Derived.Test.YbulkbhpqDoorModel
import Derived.Laws.AppendOwn
import Derived.Laws.OwnMore
import Derived.Laws.MakeOwn
import Derived.Maps.AppendAt
namespace Go.Proofs.YbulkbhpqDoor
open Go.RowKit Plain
set_option linter.unusedVariables false
set_option linter.unusedSimpArgs false

def cells3 (e : Ent) : List Value := [.int .i64 (e.1 : Int), .int .i64 e.2.1, .bool e.2.2]
def flat : List Ent → List Value
  | [] => []
  | e :: l => cells3 e ++ flat l

theorem flat_length (l : List Ent) : (flat l).length = l.length * 3 := by
  induction l with
  | nil => rfl
  | cons e l ih => simp [flat, cells3, ih]; omega
theorem flat_append (l m : List Ent) : flat (l ++ m) = flat l ++ flat m := by
  induction l with
  | nil => rfl
  | cons e l ih => simp [flat, ih]
theorem flat_one (e : Ent) : flat [e] = cells3 e := by simp [flat]

theorem flat_get (l : List Ent) (k : Nat) (e : Ent) (h : l[k]? = some e) : (flat l)[k * 3]? = some (.int .i64 (e.1 : Int)) ∧ (flat l)[k * 3 + 1]? = some (.int .i64 e.2.1) ∧ (flat l)[k * 3 + 2]? = some (.bool e.2.2) := by
  induction l generalizing k with
  | nil => simp at h
  | cons a l ih =>
    cases k with
    | zero =>
      simp at h
      subst h
      exact ⟨rfl, rfl, rfl⟩
    | succ k =>
      have := ih k (by simpa using h)
      refine ⟨?_, ?_, ?_⟩
      · rw [show (k + 1) * 3 = k * 3 + 3 by omega]; exact this.1
      · rw [show (k + 1) * 3 + 1 = k * 3 + 1 + 3 by omega]; exact this.2.1
      · rw [show (k + 1) * 3 + 2 = k * 3 + 2 + 3 by omega]; exact this.2.2

theorem flat_set (l : List Ent) (k : Nat) (e : Ent) (a : Int) (h : l[k]? = some e) : flat (l.set k (e.1, a, e.2.2)) = (flat l).set (k * 3 + 1) (.int .i64 a) := by
  induction l generalizing k with
  | nil => simp at h
  | cons b l ih =>
    cases k with
    | zero =>
      simp at h
      subst h
      rfl
    | succ k =>
      rw [List.set_cons_succ, flat, ih k (by simpa using h), show (k + 1) * 3 + 1 = k * 3 + 1 + 3 by omega]
      rfl

/-- the row at block g -/
def NowAt (B g cap : Nat) (l : List Ent) (w : World) : Prop := w.ownsRow B 75 3 (.slice (some ⟨g, 0, none⟩) l.length cap) l.length (flat l)

theorem NowAt.cells {B g cap : Nat} {l : List Ent} {w : World} (h : NowAt B g cap l w) {k : Nat} {e : Ent} (hk : l[k]? = some e) :
    w.cell? ⟨g, k * 3, none⟩ = some (.int .i64 (e.1 : Int)) ∧ w.cell? ⟨g, k * 3 + 1, none⟩ = some (.int .i64 e.2.1) ∧ w.cell? ⟨g, k * 3 + 2, none⟩ = some (.bool e.2.2) := by
  have hl : k < l.length := (List.getElem?_eq_some_iff.1 hk).1
  obtain ⟨a, b, c⟩ := flat_get l k e hk
  refine ⟨?_, ?_, ?_⟩
  · rw [World.ownsRow.cellAt h _ (by omega)]; exact a
  · rw [World.ownsRow.cellAt h _ (by omega)]; exact b
  · rw [World.ownsRow.cellAt h _ (by omega)]; exact c
theorem NowAt.frozen {B g cap : Nat} {l : List Ent} {w : World} (h : NowAt B g cap l w) (j : Nat) : w.frozen? ⟨g, j, none⟩ = false := World.ownsRow.frozenAt h j
theorem NowAt.base {B g cap : Nat} {l : List Ent} {w : World} (h : NowAt B g cap l w) : B ≤ g ∧ g < w.heap.size := World.ownsRow.lt h g rfl
theorem NowAt.alloc {B g cap : Nat} {l : List Ent} {w : World} (h : NowAt B g cap l w) (o : Obj) : NowAt B g cap l (w.alloc o) := World.ownsRow.alloc h o
theorem NowAt.of_block {B g cap : Nat} {l : List Ent} {w w' : World} (h : NowAt B g cap l w) (hb : w'.heap[g]? = w.heap[g]?) : NowAt B g cap l w' := by
  refine ⟨h.1, ?_⟩
  rcases h.2 with ⟨h', _⟩ | ⟨g', cap', cur, h', a, b, c⟩
  · simp at h'
  · simp only [Value.slice.injEq, Option.some.injEq, Addr.mk.injEq, and_true, true_and] at h'
    obtain ⟨rfl, rfl⟩ := h'
    exact .inr ⟨g, cap, cur, rfl, a, by rw [hb]; exact b, c⟩
theorem NowAt.below {B g cap : Nat} {l : List Ent} {w w' : World} (h : NowAt B g cap l w) (hb : Below w.heap.size w w') : NowAt B g cap l w' := h.of_block (hb.block _ h.base.2)
theorem NowAt.set {B g cap : Nat} {l : List Ent} {w : World} (h : NowAt B g cap l w) {k : Nat} {e : Ent} (hk : l[k]? = some e) (a : Int) : NowAt B g cap (l.set k (e.1, a, e.2.2)) (w.setCell ⟨g, k * 3 + 1, none⟩ (.int .i64 a)) := by
  have := (World.ownsRow.stored h (k * 3 + 1) (.int .i64 a)).1
  unfold NowAt
  rw [flat_set l k e a hk, List.length_set]
  exact this
/-- a block of another type is another block -/
theorem NowAt.ne {B g cap : Nat} {l : List Ent} {w : World} (h : NowAt B g cap l w) {b n : Nat} {t : TypeId} {f : Nat → Value} (hr : w.rowIs b t n f) (ht : t ≠ 75) : b ≠ g := by
  intro e
  subst e
  obtain ⟨cur, hg, _⟩ := hr
  rcases h.2 with ⟨h', _⟩ | ⟨g', cap', cur', h', _, hg', _⟩
  · simp at h'
  · simp only [Value.slice.injEq, Option.some.injEq, Addr.mk.injEq, and_true, true_and] at h'
    obtain ⟨rfl, rfl⟩ := h'
    rw [hg] at hg'
    simp at hg'
    exact ht hg'.2

theorem info75 : (Ybad.prog.info? 75).map (fun i => (i.zero, i.size, i.bytes)) = some (some (.agg #[.int .i64 0, .int .i64 0, .bool false]), 3, 24) := by kernel_rfl
theorem NowAt.form {B : Nat} {v : Value} {l : List Ent} {w : World} {n : Nat} (hn : n = l.length) (h : w.ownsRow B 75 3 v n (flat l)) (h0 : 0 < n) : ∃ g cap, v = .slice (some ⟨g, 0, none⟩) n cap ∧ NowAt B g cap l w := by
  subst hn
  rcases h.2 with ⟨_, h'⟩ | ⟨g, cap, cur, hv, _⟩
  · omega
  · subst hv
    exact ⟨g, cap, rfl, h⟩

/-- 'now = append(now, standingOfItem{..})' -/
theorem wp_append_now {ops : Array Oper} {rest : List Oper} {o : Oper} {a : Act} {Q : Exit → Act → World → Prop} {w : World} (hgd : o.guard = none) (s x : Operand)
    (ho : o.op = .call { callee := .builtin .append, args := #[s, x], argTypes := #[70, 70] }) (B g cap : Nat) (l : List Ent) (n : Nat) (hn : n = l.length) (hs : a.eval s = .slice (some ⟨g, 0, none⟩) n cap) (hN : NowAt B g cap l w)
    (y : Nat) (t : Int) (f : Bool) (ad : Nat) (hx : a.eval x = .slice (some ⟨ad, 0, none⟩) 1 1) (had : ad = w.heap.size) (hl : l.length ≤ 10000000) (hB : B ≤ w.heap.size)
    (K : ∀ g' cap' w', NowAt B g' cap' (l ++ [(y, t, f)]) w' → (∀ b, b < w.heap.size → b ≠ g → w'.heap[b]? = w.heap[b]?) → Below B w w' → wpList Ybad.prog ops Q rest (a.put o.dst (.slice (some ⟨g', 0, none⟩) (n + 1) cap')) w') :
    wpList Ybad.prog ops Q (o :: rest) a (w.alloc (.cells #[.int .i64 (y : Int), .int .i64 t, .bool f] 75)) := by
  subst hn
  obtain ⟨i75, hi75, hz75⟩ := Option.map_eq_some_iff.1 info75
  simp only [Prod.mk.injEq] at hz75
  obtain ⟨hz, hsz, hby⟩ := hz75
  refine wpList_append_own_at (w := w.alloc (.cells #[.int .i64 (y : Int), .int .i64 t, .bool f] 75)) hgd s x 70 ho B 75 i75 _ 3 24 Ybad.underlying70 hi75 hz hsz hby rfl (by decide) _ l.length (flat l) hs (World.ownsRow.alloc hN _) ⟨ad, 0, none⟩ 1 1 (cells3 (y, t, f)) hx rfl ?_ ?_ (by unfold maxLen; omega) (by omega) (by simp; omega) ?_
  · subst had
    intro j u hu
    rw [show (⟨w.heap.size, 0, none⟩ : Addr).add j = ⟨w.heap.size, j, none⟩ by unfold Addr.add; split <;> simp_all]
    rw [World.cell?_alloc_at _ _ _ _ rfl]
    simpa [cells3] using hu
  · intro u hu
    simp [cells3] at hu
    rcases hu with rfl | rfl | rfl <;> rfl
  · intro v' w' hown hgr _ _
    have hfl : flat l ++ cells3 (y, t, f) = flat (l ++ [(y, t, f)]) := by rw [flat_append, flat_one]
    rw [hfl] at hown
    obtain ⟨g', cap', rfl, hN'⟩ := NowAt.form (by simp) hown (by omega)
    have hoth : ∀ b, b < w.heap.size → b ≠ g → w'.heap[b]? = w.heap[b]? := fun b hb hne => by
      rw [hgr.block b (by simp; omega) (by simp [Value.ownBlock]; exact hne), Below.heap_alloc _ _ _ hb]
    refine K g' cap' w' hN' hoth ?_
    have hgB := NowAt.base hN
    exact ((Below.refl B w).alloc hB _).grown hgr (by simp; omega) (fun k hk => by simp [Value.ownBlock] at hk; omega)
end Go.Proofs.YbulkbhpqDoor
