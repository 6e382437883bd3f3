/- 'ranks = append(ranks, rank)' in unorderedOnRuns: ranks is the slice that the law made (no spare room), or a row of the call's own. -/
import Derived.Test.YbulkbhpqProg
import Derived.WalkKit
import Derived.ArgAppend
import Derived.Deep.OwnRows
namespace Go.Proofs.Ybulkbhpq
open Go.RowKit
set_option linter.unusedVariables false

theorem info3r : (Yba.prog.info? 3).map (fun i => (i.zero, i.size, i.bytes)) = some (some (.int .i64 0), 1, 8) := by kernel_rfl

/-- behind block B nothing is old; the slice v holds Pz ++ xs: it is still the slice that came in (block gp, full), or a row from B on. -/
def Ranks (B gp np : Nat) (Pz : List Int) (w : World) (v : Value) (xs : List Int) : Prop :=
  (xs = [] ∧ v = .slice (some ⟨gp, 0, none⟩) np np) ∨ w.ownsRow B 3 1 v (np + xs.length) ((Pz ++ xs).map (Value.int .i64))

theorem Ranks.below {B gp np : Nat} {Pz : List Int} {w w' : World} {v : Value} {xs : List Int} (h : Ranks B gp np Pz w v xs) (hb : Below w.heap.size w w') : Ranks B gp np Pz w' v xs := by
  rcases h with h | h
  · exact .inl h
  · refine .inr ⟨h.1, ?_⟩
    rcases h.2 with h2 | ⟨g, cap, cur, hv, hg, hh, r⟩
    · exact .inl h2
    · exact .inr ⟨g, cap, cur, hv, hg, (hb.block g (Array.getElem?_eq_some_iff.1 hh).1).trans hh, r⟩

theorem add_zero_plain (g j : Nat) : (⟨g, 0, none⟩ : Addr).add j = ⟨g, j, none⟩ := by
  unfold Addr.add; split <;> simp_all

theorem ranks_step {B gp np : Nat} {Pz : List Int} {w : World} {v : Value} {xs : List Int} {ops : Array Oper} {rest : List Oper} {o : Oper} {a : Act} {Q : Exit → Act → World → Prop}
    (hg : o.guard = none) (s x : Operand) (hop : o.op = Op.call { callee := Callee.builtin Builtin.append, args := #[s, x], argTypes := #[28, 28] })
    (hs : a.eval s = v) (hr : Ranks B gp np Pz w v xs) (hP : Pz.length = np) (hpc : ∀ j, j < np → w.cell? ⟨gp, j, none⟩ = some (.int .i64 (Pz.getD j 0)))
    (ad : Addr) (y : Int) (hx : a.eval x = .slice (some ad) 1 1) (hc : w.cell? ad = some (.int .i64 y)) (hlen : np + xs.length + 1 ≤ 1000000) (hB : B ≤ w.heap.size)
    (hK : ∀ v' w', Ranks B gp np Pz w' v' (xs ++ [y]) → Below B w w' → wpList Yba.prog ops Q rest (a.put o.dst v') w') :
    wpList Yba.prog ops Q (o :: rest) a w := by
  obtain ⟨i0, hi, hz0, hz1, hz2⟩ := info_parts info3r
  have hnews : ∀ j u, [Value.int .i64 y][j]? = some u → w.cell? (ad.add j) = some u := by
    intro j u hj
    match j, hj with
    | 0, hj => simp at hj; subst hj; simpa [Addr.add] using hc
  have h1 : ∀ u ∈ [Value.int .i64 y], u.oneCell' = true := by intro u hu; simp at hu; subst hu; rfl
  rcases hr with ⟨rfl, rfl⟩ | hown
  · refine wpList_append_grows w hg s x 28 hop 3 i0 (.int .i64 0) 1 8 Yba.underlying28 hi hz0 hz1 hz2 rfl (by decide) (some ⟨gp, 0, none⟩) np np (Pz.map (Value.int .i64)) hs (fun h => by cases h) (by simp [hP])
      (fun b hb j u hu => ?_) ad 1 1 [.int .i64 y] hx rfl hnews h1 (by omega) (by unfold maxLen; simp at hlen; omega) (by simp at hlen; omega) fun v' w' hown hgr => hK v' w' ?_ ?_
    · cases hb
      rw [List.getElem?_map] at hu
      obtain ⟨z, hz, rfl⟩ := Option.map_eq_some_iff.1 hu
      have hj : j < Pz.length := (List.getElem?_eq_some_iff.1 hz).1
      rw [add_zero_plain, hpc j (by omega)]
      simp [List.getD, hz]
    · refine .inr ⟨by simp [hP], ?_⟩
      rcases hown.2 with ⟨hv, h0⟩ | ⟨g, cap, cur, hv, hgb, rest⟩
      · omega
      · exact .inr ⟨g, cap, cur, by simpa using hv, by omega, by simpa using rest⟩
    · exact (Below.refl B w).grown hgr hB (fun k hk => by cases hk)
  · refine wpList_append_own w hg s x 28 hop B 3 i0 (.int .i64 0) 1 8 Yba.underlying28 hi hz0 hz1 hz2 rfl (by decide) v (np + xs.length) _ hs hown ad 1 1 [.int .i64 y] hx rfl hnews h1 (by unfold maxLen; omega) (by omega) hB
      fun v' w' hown' hgr _ => hK v' w' (.inr ?_) ((Below.refl B w).grown hgr hB (fun k hk => (hown.lt k hk).1))
    have : np + (xs ++ [y]).length = np + xs.length + 1 := by simp; omega
    rw [this]
    simpa using hown'
end Go.Proofs.Ybulkbhpq
