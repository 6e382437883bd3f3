/- LawS2928AExact (3): the rows that the law makes: ops, items. -/
import Derived.Test.YbulkbhpqDoorLawB
namespace Go.Proofs.YbulkbhpqDoor
open Go.RowKit Plain
set_option linter.unusedVariables false
set_option linter.unusedSimpArgs false

theorem made_row (w : World) (zs : Array Value) (m : Nat) (t : TypeId) : ∃ f, (w.alloc (.cells (madeCells zs m) t)).rowIs w.heap.size t m f := by
  have h := World.rowIs_alloc w (madeCells zs m) t (fun i => (madeCells zs m)[i]?.getD (.bool false)) (fun i hi => by rw [Array.getElem?_eq_getElem hi]; rfl)
  rw [size_madeCells] at h
  exact ⟨_, h⟩

theorem info48 : (Ybad.prog.info? 48).map (fun i => (i.zero, i.size, i.bytes)) = some (some (.agg #[.bool false, .int .i64 0, .slice none 0 0]), 3, 40) := by kernel_rfl
theorem info45 : (Ybad.prog.info? 45).map (fun i => (i.zero, i.size, i.bytes)) = some (some (.agg #[.int .i64 0, .bool false]), 2, 16) := by kernel_rfl
theorem info35 : (Ybad.prog.info? 35).map (fun i => (i.zero, i.size, i.bytes)) = some (some (.agg #[.int .i64 0, .int .i64 0, .int .i64 0]), 3, 24) := by kernel_rfl
theorem make48 (n : Nat) (hn : n ≤ 1024) (wx : World) : (Instr.makeSlice 46 (.int .i64 (n : Int)) (.int .i64 (n : Int))).run Ybad.prog wx = .ok (.slice (some ⟨wx.heap.size, 0, none⟩) n n) (wx.alloc (.cells (madeCells #[.bool false, .int .i64 0, .slice none 0 0] (n * 3)) 48)) := by
  obtain ⟨i, hi, hz⟩ := Option.map_eq_some_iff.1 info48
  simp only [Prod.mk.injEq] at hz
  obtain ⟨hz, hs, hby⟩ := hz
  have := run_make (P := Ybad.prog) wx 46 48 i _ Ybad.underlying46 hi hz .i64 .i64 (n : Int) (n : Int) (by omega) (by omega) (by rw [hby]; omega) (by omega)
  simpa [hs, Value.cells] using this
theorem make35 (n : Nat) (hn : n ≤ 1024) (wx : World) : (Instr.makeSlice 33 (.int .i64 (n : Int)) (.int .i64 (n : Int))).run Ybad.prog wx = .ok (.slice (some ⟨wx.heap.size, 0, none⟩) n n) (wx.alloc (.cells (madeCells #[.int .i64 0, .int .i64 0, .int .i64 0] (n * 3)) 35)) := by
  obtain ⟨i, hi, hz⟩ := Option.map_eq_some_iff.1 info35
  simp only [Prod.mk.injEq] at hz
  obtain ⟨hz, hs, hby⟩ := hz
  have := run_make (P := Ybad.prog) wx 33 35 i _ Ybad.underlying33 hi hz .i64 .i64 (n : Int) (n : Int) (by omega) (by omega) (by rw [hby]; omega) (by omega)
  simpa [hs, Value.cells] using this

/-- the ops row up to k -/
def OpsTo (nr k : Nat) (wrt : Nat → Bool) (rat ni : Nat → Nat) (z : Nat → Nat → Nat) (ib : Nat → Nat) (OP : Nat) (w : World) : Prop :=
  ∃ f, w.rowIs OP 48 (nr * 3) f ∧ ∀ q, q < k → f (q * 3) = .bool (wrt q) ∧ f (q * 3 + 1) = .int .i64 (rat q : Int) ∧ f (q * 3 + 2) = .slice (some ⟨ib q, 0, none⟩) (ni q) (ni q) ∧ w.rowIs (ib q) 3 (ni q) (fun j => .int .i64 ((z q j % 4 : Nat) : Int))
theorem OpsTo.below {nr k : Nat} {wrt : Nat → Bool} {rat ni : Nat → Nat} {z : Nat → Nat → Nat} {ib : Nat → Nat} {OP : Nat} {w w' : World} (h : OpsTo nr k wrt rat ni z ib OP w) (hb : Below w.heap.size w w') : OpsTo nr k wrt rat ni z ib OP w' := by
  obtain ⟨f, hr, hq⟩ := h
  exact ⟨f, rowIs_below hr hb, fun q hk => ⟨(hq q hk).1, (hq q hk).2.1, (hq q hk).2.2.1, rowIs_below (hq q hk).2.2.2 hb⟩⟩
theorem OpsTo.step {nr k : Nat} {wrt : Nat → Bool} {rat ni : Nat → Nat} {z : Nat → Nat → Nat} {ib : Nat → Nat} {OP I : Nat} {w : World} (h : OpsTo nr k wrt rat ni z ib OP w) (hI : w.rowIs I 3 (ni k) (fun j => .int .i64 ((z k j % 4 : Nat) : Int))) :
    OpsTo nr (k + 1) wrt rat ni z (fun q => if q = k then I else ib q) OP (((w.setCell ⟨OP, k * 3, none⟩ (.bool (wrt k))).setCell ⟨OP, k * 3 + 1, none⟩ (.int .i64 (rat k : Int))).setCell ⟨OP, k * 3 + 2, none⟩ (.slice (some ⟨I, 0, none⟩) (ni k) (ni k))) := by
  obtain ⟨f, hr, hq⟩ := h
  refine ⟨_, ((hr.set (k * 3) _).set (k * 3 + 1) _).set (k * 3 + 2) _, fun q hk => ?_⟩
  have hk3 : ∀ {g : Nat → Value} {b m : Nat}, w.rowIs b 3 m g → (((w.setCell ⟨OP, k * 3, none⟩ (.bool (wrt k))).setCell ⟨OP, k * 3 + 1, none⟩ (.int .i64 (rat k : Int))).setCell ⟨OP, k * 3 + 2, none⟩ (.slice (some ⟨I, 0, none⟩) (ni k) (ni k))).rowIs b 3 m g := fun hb =>
    have hne := rows_ne hb hr (by decide)
    ((hb.setOther (a := ⟨OP, k * 3, none⟩) hne _).setOther (a := ⟨OP, k * 3 + 1, none⟩) hne _).setOther (a := ⟨OP, k * 3 + 2, none⟩) hne _
  by_cases e : q = k
  · subst e
    simp only [if_true]
    refine ⟨?_, ?_, trivial, hk3 hI⟩
    · rw [if_neg (by omega), if_neg (by omega)]
    · rw [if_neg (by omega)]
  · have := hq q (by omega)
    simp only [if_neg e]
    refine ⟨?_, ?_, ?_, hk3 this.2.2.2⟩
    · rw [if_neg (by omega), if_neg (by omega), if_neg (by omega)]; exact this.1
    · rw [if_neg (by omega), if_neg (by omega), if_neg (by omega)]; exact this.2.1
    · rw [if_neg (by omega), if_neg (by omega), if_neg (by omega)]; exact this.2.2.1
theorem OpsTo.all {nr : Nat} {wrt : Nat → Bool} {rat ni : Nat → Nat} {z : Nat → Nat → Nat} {ib : Nat → Nat} {OP : Nat} {w : World} (h : OpsTo nr nr wrt rat ni z ib OP w) : OpsAt nr wrt rat ni z ib OP w := by
  obtain ⟨f, hr, hq⟩ := h
  exact ⟨fun i hi => (hr.cell (by omega)).trans (by rw [(hq i hi).1]), fun i hi => (hr.cell (by omega)).trans (by rw [(hq i hi).2.1]), fun i hi => (hr.cell (by omega)).trans (by rw [(hq i hi).2.2.1]), fun i hi => (hq i hi).2.2.2⟩

/-- the items' row up to k -/
def ItemsTo (k : Nat) (tn : Nat → Nat) (tz : Nat → Nat → Nat) (wb : Nat → Nat) (IB : Nat) (w : World) : Prop :=
  ∃ f, w.rowIs IB 42 52 f ∧ ∀ q, q < k → f (q * 13 + 1) = .slice (some ⟨wb q, 0, none⟩) (tn q) (tn q) ∧ w.rowIs (wb q) 35 (tn q * 3) (wcell (soF (tz q) (tn q)))
theorem ItemsTo.below {k : Nat} {tn : Nat → Nat} {tz : Nat → Nat → Nat} {wb : Nat → Nat} {IB : Nat} {w w' : World} (h : ItemsTo k tn tz wb IB w) (hb : Below w.heap.size w w') : ItemsTo k tn tz wb IB w' := by
  obtain ⟨f, hr, hq⟩ := h
  exact ⟨f, rowIs_below hr hb, fun q hk => ⟨(hq q hk).1, rowIs_below (hq q hk).2 hb⟩⟩
theorem ItemsTo.all {tn : Nat → Nat} {tz : Nat → Nat → Nat} {wb : Nat → Nat} {IB : Nat} {w : World} (h : ItemsTo 4 tn tz wb IB w) : ItemsAt tn tz wb IB w := by
  obtain ⟨f, hr, hq⟩ := h
  exact ⟨fun x hx => (hr.cell (by omega)).trans (by rw [(hq x hx).1]), fun x hx => (hq x hx).2⟩
end Go.Proofs.YbulkbhpqDoor
