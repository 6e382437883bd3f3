/- A slice of structs of three int fields, opened at every index (the guide's Deep/SlicePairs.lean at three fields, downward alone). -/
import Derived.Deep.Strs
import Derived.Deep.Slices
namespace Go.Proofs.Ybulkbhpq
open Go.ChangeShapes Go.WideShapes Go.Deep

theorem open_triples {H : Type} {enc : TypeId × Value → H} {P : Program} {w : World} {held : Bool} {t e : TypeId} {f0 f1 f2 : Field} {fuel : Nat} {cs : List Value} {x : DataW H × List MemPlace}
    (ht : P.underlying t = some (.slice e)) (he : P.underlying e = some (.struct #[f0, f1, f2])) (ce : P.cellsOf e = 3) (o0 : f0.offset = 0) (o1 : f1.offset = 1) (o2 : f2.offset = 2)
    (u0 : P.underlying f0.type = some (.int .i64)) (u1 : P.underlying f1.type = some (.int .i64)) (u2 : P.underlying f2.type = some (.int .i64))
    (c0 : P.cellsOf f0.type = 1) (c1 : P.cellsOf f1.type = 1) (c2 : P.cellsOf f2.type = 1)
    (h : DataW.trod enc P w 0 (fun _ => true) held fuel t cs = some x) :
    cs = [.slice none 0 0] ∨
    ∃ (a : Addr) (len cap : Nat) (T A R : Nat → Int), cs = [.slice (some a) len cap] ∧ len ≤ cap ∧
      ∀ i, i < cap → w.cell? (a.add (i * 3)) = some (.int .i64 (T i)) ∧ w.cell? (a.add (i * 3 + 1)) = some (.int .i64 (A i)) ∧ w.cell? (a.add (i * 3 + 2)) = some (.int .i64 (R i)) := by
  rcases open_slice ht h with h0 | ⟨a, len, cap, m, n, D, Pl, rfl, hb, hl, hm, hmm, rfl, hx⟩
  · exact Or.inl h0.1
  right
  simp only [if_true] at hmm
  subst hmm
  have each : ∀ i, i < m → ∃ q : Int × Int × Int, w.cell? (a.add (i * 3)) = some (.int .i64 q.1) ∧ w.cell? (a.add (i * 3 + 1)) = some (.int .i64 q.2.1) ∧ w.cell? (a.add (i * 3 + 2)) = some (.int .i64 q.2.2) := by
    intro i hi
    obtain ⟨cs', h1, h2⟩ := hx i hi
    rw [ce] at h1
    obtain ⟨_, hlen, hcell⟩ := World.cells?_some h1
    obtain ⟨y0, y1, y2, k, _, _, g0, g1, g2⟩ := trod_struct3 he h2
    match cs', hlen with
    | [v0, v1, v2], _ =>
      simp [o0, o1, o2, c0, c1, c2] at g0 g1 g2
      obtain ⟨z0, r0, _, _⟩ := DataW.trod_int u0 g0
      obtain ⟨z1, r1, _, _⟩ := DataW.trod_int u1 g1
      obtain ⟨z2, r2, _, _⟩ := DataW.trod_int u2 g2
      have e0 := hcell 0 (by omega)
      have e1 := hcell 1 (by omega)
      have e2 := hcell 2 (by omega)
      rw [add_add] at e0 e1 e2
      simp only [List.cons.injEq, and_true] at r0 r1 r2
      subst r0 r1 r2
      exact ⟨(z0, z1, z2), by simpa using e0, by simpa using e1, by simpa using e2⟩
  obtain ⟨q, hq⟩ := choose_lt each
  exact ⟨a, len, m, fun i => (q i).1, fun i => (q i).2.1, fun i => (q i).2.2, rfl, hl, hq⟩
end Go.Proofs.Ybulkbhpq
