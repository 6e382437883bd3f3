/- LawS2928CRuns (4): the structures that it builds. -/
import Derived.Test.YbulkbhpqCRunsA
import Derived.Test.YbulkbhpqCRunsR
namespace Go.Proofs.Ybulkbhpq
open Go.RowKit
set_option linter.unusedVariables false
set_option linter.unusedSimpArgs false
attribute [local go_sem] alloc_drewN setCell_drewN

/-- readItems: at transaction 0 nil, or item 0 alone -/
def ReadAt (wrd : Bool) (RI : Nat) (w : World) : Prop :=
  (wrd = false ∧ w.cell? ⟨RI, 0, none⟩ = some (.slice none 0 0)) ∨ (wrd = true ∧ ∃ g, w.cell? ⟨RI, 0, none⟩ = some (.slice (some ⟨g, 0, none⟩) 1 1) ∧ w.cell? ⟨g, 0, none⟩ = some (.int .i64 0))
theorem ReadAt.below {wrd : Bool} {RI : Nat} {w w' : World} (h : ReadAt wrd RI w) (hb : Below w.heap.size w w') : ReadAt wrd RI w' := by
  rcases h with ⟨h1, h2⟩ | ⟨h1, g, h2, h3⟩
  · exact .inl ⟨h1, kept hb h2⟩
  · exact .inr ⟨h1, g, kept hb h2, kept hb h3⟩
theorem Ph4.below {RR nc : Nat} {M : Nat → Nat} {Z : Nat → Nat → Nat} {RB : Nat → Nat} {v : Value} {c : Nat} {w w' : World} (h : Ph4 RR nc M Z RB v c w) (hb : Below w.heap.size w w') : Ph4 RR nc M Z RB v c w' :=
  ⟨rowIs_below h.rr hb, fun i hi => rowIs_below (h.rb i hi) hb, own_below h.own hb⟩

/-- the cells of the forcedOrder, of the pairSearch that the law builds -/
def gCells (a b : Addr) (n : Nat) : Array Value := #[.pointer none, .pointer none, .slice none 0 0, .slice none 0 0, .slice none 0 0, .int .i64 0, .slice (some b) n n, .slice none 0 0, .slice none 0 0, .slice none 0 0, .slice none 0 0, .slice none 0 0, .slice none 0 0, .slice none 0 0, .slice none 0 0, .iface 43 (.pointer (some a)), .bool false, .int .i64 0, .int .i64 0, .int .i64 0, .slice none 0 0, .int .i64 0, .int .i64 0, .int .i64 0, .slice none 0 0, .bool false, .int .i64 0, .int .i64 0, .int .i64 0, .slice none 0 0, .bool false, .slice none 0 0, .slice none 0 0, .slice none 0 0, .slice none 0 0, .slice none 0 0, .slice none 0 0, .slice none 0 0, .slice none 0 0, .slice none 0 0, .int .i64 0, .slice none 0 0, .slice none 0 0, .slice none 0 0, .slice none 0 0, .int .i64 0, .slice none 0 0, .slice none 0 0, .bool false, .int .i64 0]
def sCells (a b c d e : Addr) (n : Nat) : Array Value := #[.pointer (some a), .int .i64 0, .slice none 0 0, .slice (some b) n n, .slice (some c) n n, .slice none 0 0, .slice (some d) 1 1, .slice (some e) 1 1, .slice none 0 0, .slice none 0 0, .int .i64 0, .slice none 0 0, .slice none 0 0, .slice none 0 0, .slice none 0 0, .int .i64 0, .slice none 0 0]
theorem build67 (a b : Addr) (n : Nat) (w : World) : (Instr.build 67 #[(15, .iface 43 (.pointer (some a))), (6, .slice (some b) n n)]).run Yba.prog w = .ok (.agg (gCells a b n)) w := by kernel_rfl
theorem build74 (a b c d e : Addr) (n : Nat) (w : World) : (Instr.build 74 #[(0, .pointer (some a)), (3, .slice (some b) n n), (4, .slice (some c) n n), (6, .slice (some d) 1 1), (7, .slice (some e) 1 1)]).run Yba.prog w = .ok (.agg (sCells a b c d e n)) w := by kernel_rfl

theorem wpList_build67 {w : World} {ops : Array Oper} {rest : List Oper} {o : Oper} {a : Act} {Q : Exit → Act → World → Prop} (hg : o.guard = none) (x y : Operand) (ho : o.op = Op.build 67 #[(15, x), (6, y)])
    (ad b : Addr) (n : Nat) (hx : a.eval x = .iface 43 (.pointer (some ad))) (hy : a.eval y = .slice (some b) n n) (h : wpList Yba.prog ops Q rest (a.put o.dst (.agg (gCells ad b n))) w) : wpList Yba.prog ops Q (o :: rest) a w := by
  refine wpList_plain hg fun K hK => ?_
  have hrun := build67 ad b n w
  unfold Oper.wp
  simp only [execOp, ho]
  have e : (#[(15, x), (6, y)] : Array (Nat × Operand)).map (fun p => (p.1, a.eval p.2)) = #[(15, .iface 43 (.pointer (some ad))), (6, .slice (some b) n n)] := by simp [hx, hy]
  have e2 : (#[(15, x), (6, y)] : Array (Nat × Operand)).map (fun x => match x with | (i, x) => (i, a.eval x)) = #[(15, .iface 43 (.pointer (some ad))), (6, .slice (some b) n n)] := e
  rw [e2]
  simp only [Sem.run_bind, hrun]
  exact hK _ _ h
theorem wpList_build74 {w : World} {ops : Array Oper} {rest : List Oper} {o : Oper} {a : Act} {Q : Exit → Act → World → Prop} (hg : o.guard = none) (x0 x3 x4 x6 x7 : Operand) (ho : o.op = Op.build 74 #[(0, x0), (3, x3), (4, x4), (6, x6), (7, x7)])
    (ad b c d e : Addr) (n : Nat) (h0 : a.eval x0 = .pointer (some ad)) (h3 : a.eval x3 = .slice (some b) n n) (h4 : a.eval x4 = .slice (some c) n n) (h6 : a.eval x6 = .slice (some d) 1 1) (h7 : a.eval x7 = .slice (some e) 1 1)
    (h : wpList Yba.prog ops Q rest (a.put o.dst (.agg (sCells ad b c d e n))) w) : wpList Yba.prog ops Q (o :: rest) a w := by
  refine wpList_plain hg fun K hK => ?_
  have hrun := build74 ad b c d e n w
  unfold Oper.wp
  simp only [execOp, ho]
  have e1 : (#[(0, x0), (3, x3), (4, x4), (6, x6), (7, x7)] : Array (Nat × Operand)).map (fun p => (p.1, a.eval p.2)) = #[(0, .pointer (some ad)), (3, .slice (some b) n n), (4, .slice (some c) n n), (6, .slice (some d) 1 1), (7, .slice (some e) 1 1)] := by simp [h0, h3, h4, h6, h7]
  have e2 : (#[(0, x0), (3, x3), (4, x4), (6, x6), (7, x7)] : Array (Nat × Operand)).map (fun x => match x with | (i, x) => (i, a.eval x)) = #[(0, .pointer (some ad)), (3, .slice (some b) n n), (4, .slice (some c) n n), (6, .slice (some d) 1 1), (7, .slice (some e) 1 1)] := e1
  rw [e2]
  simp only [Sem.run_bind, hrun]
  exact hK _ _ h

/-- what the five blocks that the law lays hold; a: the first of them -/
structure Tables (a B W nc n EB LB RK RI RR : Nat) (rv : Value) (w : World) : Prop where
  t0 : w.cell? ⟨a, 0, none⟩ = some (.int .i64 0)
  t1 : w.cell? ⟨a, 1, none⟩ = some (.int .i64 (W : Int))
  t5 : w.cell? ⟨a, 5, none⟩ = some (.slice (some ⟨EB, 0, none⟩) W W)
  t6 : w.cell? ⟨a, 6, none⟩ = some (.slice (some ⟨LB, 0, none⟩) W W)
  g15 : w.cell? ⟨a + 1, 15, none⟩ = some (.iface 43 (.pointer (some ⟨a, 0, none⟩)))
  g6 : w.cell? ⟨a + 1, 6, none⟩ = some (.slice (some ⟨B + 1, 0, none⟩) nc nc)
  q0 : w.cell? ⟨a + 1 + 1, 0, none⟩ = some (.slice (some ⟨RR, 0, none⟩) nc nc)
  q1 : w.cell? ⟨a + 1 + 1 + 1, 0, none⟩ = some rv
  s0 : w.cell? ⟨a + 1 + 1 + 1 + 1, 0, none⟩ = some (.pointer (some ⟨a + 1, 0, none⟩))
  s3 : w.cell? ⟨a + 1 + 1 + 1 + 1, 3, none⟩ = some (.slice (some ⟨RK, 0, none⟩) n n)
  s4 : w.cell? ⟨a + 1 + 1 + 1 + 1, 4, none⟩ = some (.slice (some ⟨RI, 0, none⟩) n n)
  s6 : w.cell? ⟨a + 1 + 1 + 1 + 1, 6, none⟩ = some (.slice (some ⟨a + 1 + 1, 0, none⟩) 1 1)
  s7 : w.cell? ⟨a + 1 + 1 + 1 + 1, 7, none⟩ = some (.slice (some ⟨a + 1 + 1 + 1, 0, none⟩) 1 1)

theorem Tables.below {a B W nc n EB LB RK RI RR : Nat} {rv : Value} {w w' : World} (h : Tables a B W nc n EB LB RK RI RR rv w) (hb : Below w.heap.size w w') : Tables a B W nc n EB LB RK RI RR rv w' :=
  ⟨kept hb h.t0, kept hb h.t1, kept hb h.t5, kept hb h.t6, kept hb h.g15, kept hb h.g6, kept hb h.q0, kept hb h.q1, kept hb h.s0, kept hb h.s3, kept hb h.s4, kept hb h.s6, kept hb h.s7⟩

theorem new_at (w : World) (c : Array Value) (t : TypeId) (k i : Nat) (v : Value) (hk : k = w.heap.size) (hv : c[i]? = some v) : (w.alloc (.cells c t)).cell? ⟨k, i, none⟩ = some v := by
  rw [World.cell?_alloc_at c t _ i hk]; exact hv

theorem tables_at (w : World) (B W nc n EB LB RK RI RR : Nat) (rv : Value) :
    Tables w.heap.size B W nc n EB LB RK RI RR rv (((((w.alloc (.cells #[.int .i64 0, .int .i64 (W : Int), .slice none 0 0, .slice none 0 0, .slice none 0 0, .slice (some ⟨EB, 0, none⟩) W W, .slice (some ⟨LB, 0, none⟩) W W] 47)).alloc
      (.cells (gCells ⟨w.heap.size, 0, none⟩ ⟨B + 1, 0, none⟩ nc) 67)).alloc (.cells #[.slice (some ⟨RR, 0, none⟩) nc nc] 38)).alloc (.cells #[rv] 38)).alloc
      (.cells (sCells ⟨w.heap.size + 1, 0, none⟩ ⟨RK, 0, none⟩ ⟨RI, 0, none⟩ ⟨w.heap.size + 1 + 1, 0, none⟩ ⟨w.heap.size + 1 + 1 + 1, 0, none⟩ n) 74)) := by
  refine ⟨?_, ?_, ?_, ?_, ?_, ?_, ?_, ?_, ?_, ?_, ?_, ?_, ?_⟩
  · exact old_cell (old_cell (old_cell (old_cell (new_at _ _ _ _ _ _ rfl rfl) _) _) _) _
  · exact old_cell (old_cell (old_cell (old_cell (new_at _ _ _ _ _ _ rfl rfl) _) _) _) _
  · exact old_cell (old_cell (old_cell (old_cell (new_at _ _ _ _ _ _ rfl rfl) _) _) _) _
  · exact old_cell (old_cell (old_cell (old_cell (new_at _ _ _ _ _ _ rfl rfl) _) _) _) _
  · exact old_cell (old_cell (old_cell (new_at _ _ _ _ _ _ (by simp) rfl) _) _) _
  · exact old_cell (old_cell (old_cell (new_at _ _ _ _ _ _ (by simp) rfl) _) _) _
  · exact old_cell (old_cell (new_at _ _ _ _ _ _ (by simp) rfl) _) _
  · exact old_cell (new_at _ _ _ _ _ _ (by simp) rfl) _
  · exact new_at _ _ _ _ _ _ (by simp) rfl
  · exact new_at _ _ _ _ _ _ (by simp) rfl
  · exact new_at _ _ _ _ _ _ (by simp) rfl
  · exact new_at _ _ _ _ _ _ (by simp) rfl
  · exact new_at _ _ _ _ _ _ (by simp) rfl

theorem below5 (w : World) (a b c d e : Obj) : Below w.heap.size w (((((w.alloc a).alloc b).alloc c).alloc d).alloc e) :=
  (((((Below.refl _ w).alloc (Nat.le_refl _) a).alloc (by simp) b).alloc (by simp; omega) c).alloc (by simp; omega) d).alloc (by simp; omega) e

/-- the numbers that unorderedOnRuns is told -/
def numsOf (a B W nc n EB LB RK : Nat) (M : Nat → Nat) (Z : Nat → Nat → Nat) (nr : Nat) (rz la ea : Nat → Int) : Nums :=
  ⟨a + 1 + 1 + 1 + 1, a + 1, a, LB, EB, W, RK, n, B + 1, nc, fun i => B + 4 + 2 * i, Ln M Z, fun c q => Plan.st (Ln M Z) c + q, Rk nr rz, la, ea⟩

theorem deck_of {a B W nc n EB LB RK RI RR : Nat} {rv : Value} {w : World} {M : Nat → Nat} {Z : Nat → Nat → Nat} {nr : Nat} {rz la ea : Nat → Int} {RC RD : Nat} (ht : Tables a B W nc n EB LB RK RI RR rv w)
    (h3 : Ph3 B nc M Z W n nr rz la ea RK RC RD LB EB w) (hn : n = Plan.st (Ln M Z) nc) : Deck ⟨a + 1 + 1 + 1 + 1, a + 1, a, LB, EB, W, RK, n, B + 1, nc, fun i => B + 4 + 2 * i, Ln M Z, fun c q => Plan.st (Ln M Z) c + q, Rk nr rz, la, ea⟩ w :=
  ⟨ht.s0, ht.s3, ht.g15, ht.g6, ht.t0, ht.t1, ht.t5, ht.t6, fun c hc => h3.lt.cell hc, fun c hc => h3.et.cell hc, fun t ht' => h3.rk.cell ht', fun c hc => h3.ch.cell hc,
    fun c hc q hq => ⟨(h3.tx c hc).cell hq, by show _ < n; rw [hn]; exact Plan.txn_lt _ _ _ _ hc hq⟩⟩

theorem runs_all {RR nc : Nat} {M : Nat → Nat} {Z : Nat → Nat → Nat} {RB : Nat → Nat} {v : Value} {w : World} (h : Ph4 RR nc M Z RB v nc w) (hM : ∀ j, j < nc → M j ≤ 300) (D : Nums) (hnc : D.nc = nc) (hL : D.L = Ln M Z) :
    Runs D RR nc RB M (fun r => r) (fun c => Plan.pl (Z c)) w := by
  refine ⟨fun r hr => ?_, fun r hr k hk => ?_, fun r hr k hk => ?_, hM, fun r hr => by rw [hnc]; exact hr, fun r hr k hk => by rw [hL]; exact Plan.pl_lt _ _ _ hk, fun r hr i j hij hj => Plan.pl_mono _ _ _ hij⟩
  · rw [h.rr.cell hr]; simp [hr]
  · rw [(h.rb r hr).cell (i := k * 2) (by omega)]; simp [runCell]
  · have e1 : (k * 2 + 1) % 2 = 1 := by omega
    have e2 : (k * 2 + 1) / 2 = k := by omega
    rw [(h.rb r hr).cell (i := k * 2 + 1) (by omega)]; simp [runCell, e1, e2]

theorem runs_even {RR nc : Nat} {M : Nat → Nat} {Z : Nat → Nat → Nat} {RB : Nat → Nat} {g lv cv : Nat} {w : World} (h : Ph4 RR nc M Z RB (.slice (some ⟨g, 0, none⟩) lv cv) nc w) (hlv : lv = (nc + 1) / 2) (hM : ∀ j, j < nc → M j ≤ 300) (D : Nums) (hnc : D.nc = nc) (hL : D.L = Ln M Z) :
    Runs D g ((nc + 1) / 2) (fun r => RB (2 * r)) (fun r => M (2 * r)) (fun r => 2 * r) (fun r => Plan.pl (Z (2 * r))) w := by
  subst hlv
  refine ⟨fun r hr => ?_, fun r hr k hk => ?_, fun r hr k hk => ?_, fun r hr => hM _ (by omega), fun r hr => by rw [hnc]; omega, fun r hr k hk => by rw [hL]; exact Plan.pl_lt _ _ _ hk, fun r hr i j hij hj => Plan.pl_mono _ _ _ hij⟩
  · rw [h.own.cellAt r (by omega), List.getElem?_map, List.getElem?_range hr]; rfl
  · rw [(h.rb (2 * r) (by omega)).cell (i := k * 2) (by omega)]; simp [runCell]
  · have e1 : (k * 2 + 1) % 2 = 1 := by omega
    have e2 : (k * 2 + 1) / 2 = k := by omega
    rw [(h.rb (2 * r) (by omega)).cell (i := k * 2 + 1) (by omega)]; simp [runCell, e1, e2]

theorem add_off (g o j : Nat) : (⟨g, o, none⟩ : Addr).add j = ⟨g, o + j, none⟩ := by
  unfold Addr.add; split <;> simp_all

theorem pz_get (pz : Nat → Int) (np j : Nat) (hj : j < np) : ((List.range np).map pz).getD j 0 = pz j := by
  simp [List.getD, List.getElem?_map, List.getElem?_range hj]

theorem call_unord {a B W nc n EB LB RK RI RR : Nat} {av : Option Addr} {lv cv : Nat} {w : World} {M : Nat → Nat} {Z : Nat → Nat → Nat} {nr : Nat} {rz la ea : Nat → Int} {RC RD : Nat} {RB : Nat → Nat} {wrd : Bool} {gp np : Nat} {pz : Nat → Int} (above : Int)
    (ht : Tables a B W nc n EB LB RK RI RR (.slice av lv cv) w) (h3 : Ph3 B nc M Z W n nr rz la ea RK RC RD LB EB w) (h4 : Ph4 RR nc M Z RB (.slice av lv cv) nc w) (hv : nc = 0 → Value.slice av lv cv = .slice none 0 0) (hr : ReadAt wrd RI w)
    (hn : n = Plan.st (Ln M Z) nc) (hn1 : 1 ≤ n) (hM : ∀ j, j < nc → M j ≤ 300) (hW : W ≤ 300) (hnc : nc ≤ W) (hnp : np ≤ 4096) (hpre : w.rowIs gp 3 np (fun j => .int .i64 (pz j))) :
    Calls Yba.prog 6 #[.pointer (some ⟨a + 1 + 1 + 1 + 1, 0, none⟩), .slice (some ⟨gp, 0, none⟩) np np, .int .i64 0, .int .i64 above, .int .i64 0] w fun e w' => ∃ v, e = .returned v ∧
      Ranks w.heap.size gp np ((List.range np).map pz) w' v (Sel.wantTo (numsOf a B W nc n EB LB RK M Z nr rz la ea) above wrd (fun c => Plan.pl (Z c)) M nc) ∧ Below w.heap.size w w' := by
  have hD := deck_of ht h3 hn
  have hpc : ∀ j, j < np → w.cell? ⟨gp, j, none⟩ = some (.int .i64 (((List.range np).map pz).getD j 0)) := fun j hj => by rw [pz_get pz np j hj]; exact hpre.cell hj
  rcases hr with ⟨rfl, r0⟩ | ⟨rfl, g, r0, rg⟩
  · have hshape : ∃ RR', (0 < (nc + 1) / 2 → av = some ⟨RR', 0, none⟩) ∧ lv = (nc + 1) / 2 ∧ Runs ⟨a + 1 + 1 + 1 + 1, a + 1, a, LB, EB, W, RK, n, B + 1, nc, fun i => B + 4 + 2 * i, Ln M Z, fun c q => Plan.st (Ln M Z) c + q, Rk nr rz, la, ea⟩ RR' ((nc + 1) / 2) (fun r => RB (2 * r)) (fun r => M (2 * r)) (fun r => 2 * r) (fun r => Plan.pl (Z (2 * r))) w := by
      rcases h4.own.2 with ⟨hnil, h0⟩ | ⟨g', cap, cur, hval, _⟩
      · simp at hnil
        exact ⟨0, fun h => absurd h (by omega), by rw [hnil.2.1, h0], ⟨fun r hr => absurd hr (by omega), fun r hr => absurd hr (by omega), fun r hr => absurd hr (by omega), fun r hr => absurd hr (by omega), fun r hr => absurd hr (by omega), fun r hr => absurd hr (by omega), fun r hr => absurd hr (by omega)⟩⟩
      · simp at hval
        obtain ⟨rfl, rfl, rfl⟩ := hval
        exact ⟨g', fun _ => rfl, rfl, runs_even h4 rfl hM _ rfl rfl⟩
    obtain ⟨RR', hao, rfl, hR⟩ := hshape
    have h := unord_any _ _ _ _ _ _ _ _ _ _ _ _ _ _ _ _ (numsOf a B W nc n EB LB RK M Z nr rz la ea) rfl av RR' ((nc + 1) / 2) cv hao _ _ _ _ gp np ((List.range np).map pz) above w hD hR hW hnc (by omega) hnp (by simp) hpc
      (fun w' hb' => partner_no _ RI n n _ 1 _ w' hn1 (kept hb' ht.s4) (kept hb' r0) (kept hb' ht.s7) (kept hb' ht.q1))
    rw [Sel.want_even_all]
    exact h
  · have hR := runs_all h4 hM ⟨a + 1 + 1 + 1 + 1, a + 1, a, LB, EB, W, RK, n, B + 1, nc, fun i => B + 4 + 2 * i, Ln M Z, fun c q => Plan.st (Ln M Z) c + q, Rk nr rz, la, ea⟩ rfl rfl
    have h := unord_any _ _ _ _ _ _ _ _ _ _ _ _ _ _ _ _ (numsOf a B W nc n EB LB RK M Z nr rz la ea) rfl (some ⟨RR, 0, none⟩) RR nc nc (fun _ => rfl) _ _ _ _ gp np ((List.range np).map pz) above w hD hR hW hnc (by omega) hnp (by simp) hpc
      (fun w' hb' => partner_yes _ RI n n g _ 1 _ w' hn1 (kept hb' ht.s4) (kept hb' r0) (kept hb' rg) (kept hb' ht.s6) (kept hb' ht.q0))
    rw [Sel.want_all]
    exact h
end Go.Proofs.Ybulkbhpq
