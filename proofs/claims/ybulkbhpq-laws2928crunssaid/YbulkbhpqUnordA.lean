/- pairSearch.unorderedOnRuns (6): what it reads; its head. -/
import Derived.Test.YbulkbhpqSmall
import Derived.Test.YbulkbhpqRanks
import Derived.Test.YbulkbhpqSel
import Derived.WalkKit
import Derived.Outline
import Derived.Deep.Cut
namespace Go.Proofs.Ybulkbhpq
open Go.RowKit
set_option linter.unusedVariables false
set_option linter.unusedSimpArgs false

theorem alloc_drewN (w : World) (q : Nat) (o : Obj) : (w.drewN q).alloc o = (w.alloc o).drewN q := rfl
theorem setCell_drewN (w : World) (q : Nat) (a : Addr) (v : Value) : (w.drewN q).setCell a v = (w.setCell a v).drewN q := rfl
attribute [local go_sem] alloc_drewN setCell_drewN

theorem Ranks.base {B B' gp np : Nat} {Pz : List Int} {w : World} {v : Value} {xs : List Int} (h : Ranks B gp np Pz w v xs) (hB : B' ≤ B) : Ranks B' gp np Pz w v xs := by
  rcases h with h | h
  · exact .inl h
  · refine .inr ⟨h.1, ?_⟩
    rcases h.2 with h2 | ⟨g, cap, cur, hv, hg, r⟩
    · exact .inl h2
    · exact .inr ⟨g, cap, cur, hv, Nat.le_trans hB hg, r⟩

/-- what lies in memory when unorderedOnRuns is called -/
structure Deck (D : Nums) (w : World) : Prop where
  s0 : w.cell? ⟨D.S, 0, none⟩ = some (.pointer (some ⟨D.G, 0, none⟩))
  s3 : w.cell? ⟨D.S, 3, none⟩ = some (.slice (some ⟨D.RK, 0, none⟩) D.n D.n)
  g15 : w.cell? ⟨D.G, 15, none⟩ = some (.iface 43 (.pointer (some ⟨D.CT, 0, none⟩)))
  g6 : w.cell? ⟨D.G, 6, none⟩ = some (.slice (some ⟨D.CH, 0, none⟩) D.nc D.nc)
  t0 : w.cell? ⟨D.CT, 0, none⟩ = some (.int .i64 0)
  t1 : w.cell? ⟨D.CT, 1, none⟩ = some (.int .i64 (D.W : Int))
  t5 : w.cell? ⟨D.CT, 5, none⟩ = some (.slice (some ⟨D.EB, 0, none⟩) D.W D.W)
  t6 : w.cell? ⟨D.CT, 6, none⟩ = some (.slice (some ⟨D.LB, 0, none⟩) D.W D.W)
  lat : ∀ c, c < D.W → w.cell? ⟨D.LB, c, none⟩ = some (.int .i32 (D.lat c))
  ear : ∀ c, c < D.W → w.cell? ⟨D.EB, c, none⟩ = some (.int .i32 (D.ear c))
  rank : ∀ t, t < D.n → w.cell? ⟨D.RK, t, none⟩ = some (.int .i64 (D.rk t))
  chain : ∀ c, c < D.nc → w.cell? ⟨D.CH, c, none⟩ = some (.slice (some ⟨D.CB c, 0, none⟩) (D.L c) (D.L c))
  txn : ∀ c, c < D.nc → ∀ q, q < D.L c → w.cell? ⟨D.CB c, q, none⟩ = some (.int .i64 (D.X c q : Int)) ∧ D.X c q < D.n

theorem Deck.below {D : Nums} {w w' : World} (h : Deck D w) (hb : Below w.heap.size w w') : Deck D w' :=
  ⟨kept hb h.s0, kept hb h.s3, kept hb h.g15, kept hb h.g6, kept hb h.t0, kept hb h.t1, kept hb h.t5, kept hb h.t6, fun c hc => kept hb (h.lat c hc), fun c hc => kept hb (h.ear c hc), fun c hc => kept hb (h.rank c hc),
    fun c hc => kept hb (h.chain c hc), fun c hc q hq => ⟨kept hb (h.txn c hc q hq).1, (h.txn c hc q hq).2⟩⟩

theorem assert43 (a : Addr) (w : World) : (Instr.typeAssert (.iface 43 (.pointer (some a))) 57 43 false).run Yba.prog w = .ok (.pointer (some a)) w := by kernel_rfl

/-- the runs that partnerRuns hands over: row RR of nr runs; run r lies in block RB r, its m r places on chain ch r -/
structure Runs (D : Nums) (RR nr : Nat) (RB m ch : Nat → Nat) (pos : Nat → Nat → Nat) (w : World) : Prop where
  cell : ∀ r, r < nr → w.cell? ⟨RR, r, none⟩ = some (.slice (some ⟨RB r, 0, none⟩) (m r) (m r))
  c0 : ∀ r, r < nr → ∀ k, k < m r → w.cell? ⟨RB r, k * 2, none⟩ = some (.int .i32 (ch r : Int))
  c1 : ∀ r, r < nr → ∀ k, k < m r → w.cell? ⟨RB r, k * 2 + 1, none⟩ = some (.int .i32 (pos r k : Int))
  hm : ∀ r, r < nr → m r ≤ 300
  hch : ∀ r, r < nr → ch r < D.nc
  hpos : ∀ r, r < nr → ∀ k, k < m r → pos r k < D.L (ch r)
  mono : ∀ r, r < nr → ∀ i j, i < j → j < m r → pos r i < pos r j

theorem Runs.below {D : Nums} {RR nr : Nat} {RB m ch : Nat → Nat} {pos : Nat → Nat → Nat} {w w' : World} (h : Runs D RR nr RB m ch pos w) (hb : Below w.heap.size w w') : Runs D RR nr RB m ch pos w' :=
  ⟨fun r hr => kept hb (h.cell r hr), fun r hr k hk => kept hb (h.c0 r hr k hk), fun r hr k hk => kept hb (h.c1 r hr k hk), h.hm, h.hch, h.hpos, h.mono⟩

theorem below1 (w : World) (a : Obj) (q : Nat) : Below w.heap.size w ((w.alloc a).drewN q) :=
  below_drewN ((Below.refl _ w).alloc (Nat.le_refl _) a) q

theorem below2 (w : World) (a b : Obj) (q : Nat) : Below w.heap.size w (((w.alloc a).alloc b).drewN q) :=
  below_drewN (((Below.refl _ w).alloc (Nat.le_refl _) a).alloc (by simp) b) q

theorem below3 (w : World) (a b c : Obj) (q : Nat) : Below w.heap.size w ((((w.alloc a).alloc b).alloc c).drewN q) :=
  below_drewN ((((Below.refl _ w).alloc (Nat.le_refl _) a).alloc (by simp) b).alloc (by simp; omega) c) q

set_option maxHeartbeats 4000000 in
set_option maxRecDepth 100000 in
theorem unord_any (S G CT LB EB W RK n CH nc : Nat) (CB L : Nat → Nat) (X : Nat → Nat → Nat) (rk lat ear : Nat → Int) (D : Nums) (hDe : Hid (D = ⟨S, G, CT, LB, EB, W, RK, n, CH, nc, CB, L, X, rk, lat, ear⟩))
    (ao : Option Addr) (RR nr cr : Nat) (hao : 0 < nr → ao = some ⟨RR, 0, none⟩) (RB m ch : Nat → Nat) (pos : Nat → Nat → Nat) (gp np : Nat) (Pz : List Int) (above : Int) (w : World)
    (hD : Deck ⟨S, G, CT, LB, EB, W, RK, n, CH, nc, CB, L, X, rk, lat, ear⟩ w) (hR : Runs ⟨S, G, CT, LB, EB, W, RK, n, CH, nc, CB, L, X, rk, lat, ear⟩ RR nr RB m ch pos w)
    (hW : W ≤ 300) (hnc : nc ≤ W) (hnr : nr ≤ 300) (hnp : np ≤ 4096) (hP : Pz.length = np) (hpc : ∀ j, j < np → w.cell? ⟨gp, j, none⟩ = some (.int .i64 (Pz.getD j 0)))
    (hpart : ∀ w', Below w.heap.size w w' → Calls Yba.prog 9 #[.pointer (some ⟨S, 0, none⟩), .int .i64 0, .int .i64 0] w' fun e w'' => e = .returned (.slice ao nr cr) ∧ w'' = w') :
    Calls Yba.prog 6 #[.pointer (some ⟨S, 0, none⟩), .slice (some ⟨gp, 0, none⟩) np np, .int .i64 0, .int .i64 above, .int .i64 0] w fun e w' => ∃ v, e = .returned v ∧ Ranks w.heap.size gp np Pz w' v (Sel.outTo D above ch pos m nr) ∧ Below w.heap.size w w' := by
  have s0 := hD.s0
  have g15 := hD.g15
  simp only at s0 g15
  have e0 := old_cell hD.t0
  have e1 := old_cell hD.t1
  have e5 := old_cell hD.t5
  have e6 := old_cell hD.t6
  simp only at e0 e1 e5 e6
  have hCT : CT < w.heap.size := World.block_lt_of_cell? w _ hD.t0
  have n1 : w.heap.size ≠ CT := by omega
  have n2 : w.heap.size + 1 ≠ CT := by omega
  have n3 : w.heap.size + 1 + 1 ≠ CT := by omega
  have m1 : CT ≠ w.heap.size := by omega
  have m2 : CT ≠ w.heap.size + 1 := by omega
  have m3 : CT ≠ w.heap.size + 1 + 1 := by omega
  have n4 : w.heap.size + 1 + 1 ≠ w.heap.size := by omega
  have n5 : w.heap.size ≠ w.heap.size + 1 + 1 := by omega
  have n6 : w.heap.size + 1 + 1 ≠ w.heap.size + 1 := by omega
  have n7 : w.heap.size + 1 ≠ w.heap.size + 1 + 1 := by omega
  have HD := hideR hD
  have HR := hideR hR
  have HP := hideR hpc
  have HPt := hideR hpart
  clear hD hR hpc hpart
  have hta := assert43
  go_enter Yba.func6, Yba.ntmps6
  go_wp2
  go_cut [13, 14] from 22 (fun s13 s14 wc => ∃ b1 b2 : Nat, s13 = .pointer (some ⟨b1, 0, none⟩) ∧ s14 = .pointer (some ⟨b2, 0, none⟩) ∧ wc.cell? ⟨w.heap.size, 0, none⟩ = some (.pointer (some ⟨CT, 0, none⟩)) ∧
      wc.cell? ⟨b1, 0, none⟩ = some (.slice (some ⟨LB, 0, none⟩) W W) ∧ wc.cell? ⟨b2, 0, none⟩ = some (.slice (some ⟨EB, 0, none⟩) W W) ∧ Below w.heap.size w wc)
  case first =>
    go_region_held3 (fun w' => w'.cell? ⟨w.heap.size, 0, none⟩ = some (.pointer (some ⟨CT, 0, none⟩)) ∧ w'.cell? ⟨CT, 1, none⟩ = some (.int .i64 (W : Int)) ∧ w'.cell? ⟨CT, 5, none⟩ = some (.slice (some ⟨EB, 0, none⟩) W W) ∧ w'.cell? ⟨CT, 6, none⟩ = some (.slice (some ⟨LB, 0, none⟩) W W)) (go_keep)
      (first | (go_at_call_of 8 (Value.slice (some ⟨LB, 0, none⟩) W W); refine (row_any CT LB W _ hW ?_).mono ?_; (simp [*, World.cell?_alloc_some, World.cell?_setCell_far]); rintro e w' ⟨rfl, q, rfl⟩) | (go_at_call_of 8 (Value.slice (some ⟨EB, 0, none⟩) W W); refine (row_any CT EB W _ hW ?_).mono ?_; (simp [*, World.cell?_alloc_some, World.cell?_setCell_far]); rintro e w' ⟨rfl, q, rfl⟩))
    all_goals go_wp2_with fail
    all_goals go_meet
    all_goals refine ⟨_, _, rfl, rfl, ?_, ?_, ?_, ?_⟩
    all_goals first
      | (go_simp; done)
      | exact below3 _ _ _ _ _
  case rest =>
    obtain ⟨b1, b2, rfl, rfl, c2, cb1, cb2, hb0⟩ := hcut
    clear e0 e1 e5 e6 n1 n2 n3 n4 n5 n6 n7 m1 m2 m3 s0 g15 hta
    go_wp2_with (go_at_call 9; refine (unhideR HPt _ hb0).mono ?_; rintro e w1 ⟨rfl, rfl⟩)
    have HB := hideR hb0
    go_loopw [1, 50] (fun v i wr => ∃ r : Nat, r ≤ nr ∧ i = .int .i64 r ∧ Hid (Ranks w1.heap.size gp np Pz wr v (Sel.outTo D above ch pos m r)) ∧ Below w1.heap.size w1 wr) (fun _ i _ => nr - (intOf i).toNat)
    case atStart => exact ⟨0, Nat.zero_le _, rfl, .inl ⟨rfl, rfl⟩, Below.refl _ _⟩
    case round =>
      obtain ⟨r, hr, rfl, HK, hbr⟩ := hrel
      by_cases hlt : r < nr
      · obtain rfl := hao (by omega)
        have hbw : Below w.heap.size w wr := hb0.trans (hbr.mono hb0.size)
        have hDr := (unhideR HD).below hbw
        have hRr := (unhideR HR).below hbw
        have cr0 := hRr.cell r hlt
        have hchn : ch r < nc := hRr.hch r hlt
        have hmr : m r ≤ 300 := hRr.hm r hlt
        have hmono : ∀ i j, i < j → j < m r → ((pos r i : Nat) : Int) < ((pos r j : Nat) : Int) := fun i j h1 h2 => Int.ofNat_lt.2 (hRr.mono r hlt i j h1 h2)
        have hcl1 : ClosAt b1 w.heap.size LB CT W W (ch r) (lat (ch r)) wr := ⟨kept hbr cb1, kept hbr c2, hDr.t0, hDr.t1, hDr.lat _ (by show ch r < W; omega)⟩
        have hcl2 : ClosAt b2 w.heap.size EB CT W W (ch r) (ear (ch r)) wr := ⟨kept hbr cb2, kept hbr c2, hDr.t0, hDr.t1, hDr.ear _ (by show ch r < W; omega)⟩
        have HP1 := hideR (prefix1_any b1 w.heap.size LB CT W W (ch r) (RB r) (m r) (m r) (fun k => (pos r k : Int)) (lat (ch r)) wr (by omega) hW hmr hcl1 (hRr.c0 r hlt) (hRr.c1 r hlt) hmono)
        have HP2 := hideR (fun (wz : World) (hz : Below wr.heap.size wr wz) => prefix2_any b2 w.heap.size EB CT W W (ch r) (RB r) (m r) (m r) (fun k => (pos r k : Int)) (ear (ch r)) wz (by omega) hW hmr (hcl2.below hz) (fun k hk => kept hz (hRr.c0 r hlt k hk)) (fun k hk => kept hz (hRr.c1 r hlt k hk)) hmono)
        have HDr := hideR hDr
        have HRr := hideR hRr
        have HBw := hideR hbw
        clear hDr hRr hmono hcl1 hcl2 hbw
        go_wp2_with fail
        refine (unhideR HP1).mono ?_
        rintro e w2 ⟨i, rfl, hi, hlo, hhi, hb2⟩
        have HL1 := hideR hlo
        have HH1 := hideR hhi
        clear hlo hhi
        go_wp2_with fail
        refine (unhideR HP2 _ hb2).mono ?_
        rintro e w3 ⟨j, rfl, hj, hlo2, hhi2, hb3⟩
        have HL2 := hideR hlo2
        have HH2 := hideR hhi2
        have hbw3 : Below wr.heap.size wr w3 := hb2.trans (hb3.mono hb2.size)
        clear hlo2 hhi2 hb2 hb3 HP1 HP2
        have hDe2 := hDe.out
        have HS0 : Hid (Sel.selTo D above (ch r) (pos r) i = []) := by rw [hDe2]; exact Sel.selTo_low _ _ _ _ _ HL1.out
        by_cases hij : i < j
        · have HSE : Hid (Sel.selTo D above (ch r) (pos r) (m r) = Sel.selTo D above (ch r) (pos r) j) := by rw [hDe2]; exact Sel.selTo_end _ _ _ _ _ _ hj HH2.out
          clear hDe2
          go_wp2
          have HI := hideR ((unhideR HK).below hbw3)
          have hw3 : Below w.heap.size w w3 := (unhideR HBw).trans (hbw3.mono (unhideR HBw).size)
          have hw13 : Below w1.heap.size w1 w3 := hbr.trans (hbw3.mono hbr.size)
          go_loopw [1, 67] (fun v t wx => ∃ u : Nat, u ≤ j - i ∧ t = .int .i64 u ∧ Hid (Ranks w1.heap.size gp np Pz wx v (Sel.outTo D above ch pos m r ++ Sel.selTo D above (ch r) (pos r) (i + u))) ∧ Below w1.heap.size w1 wx) (fun _ t _ => (j - i) - (intOf t).toNat)
          case atStart => exact ⟨0, Nat.zero_le _, rfl, by rw [Nat.add_zero, HS0.out, List.append_nil]; exact HI, hw13⟩
          case round =>
            obtain ⟨u, hu, rfl, HU, hbu⟩ := hrel
            by_cases hlu : u < j - i
            · have hbx : Below w.heap.size w wr := hb0.trans (hbu.mono hb0.size)
              have hDx := (unhideR HD).below hbx
              have hRx := (unhideR HR).below hbx
              have hkm : i + u < m r := by omega
              have ek : i * 2 + u * 2 = (i + u) * 2 := by omega
              have p0 : wr.cell? ⟨RB r, i * 2 + u * 2, none⟩ = some (.int .i32 (ch r : Int)) := by rw [ek]; exact hRx.c0 r hlt _ hkm
              have p1 : wr.cell? ⟨RB r, i * 2 + u * 2 + 1, none⟩ = some (.int .i32 (pos r (i + u) : Int)) := by rw [ek]; exact hRx.c1 r hlt _ hkm
              have hpL : pos r (i + u) < L (ch r) := hRx.hpos r hlt _ hkm
              have hX := hDx.txn (ch r) hchn (pos r (i + u)) hpL
              have q1 := old_cell hDx.s3
              have q2 := old_cell hDx.g6
              have q3 := old_cell (hDx.chain (ch r) hchn)
              have q4 := old_cell hX.1
              have hXn : X (ch r) (pos r (i + u)) < n := hX.2
              have q5 := old_cell (hDx.rank _ hXn)
              simp only at q1 q2 q3 q4 q5
              have HPx := hideR (fun j hj => kept hbx (unhideR HP j hj))
              have hb1 : ((ch r : Nat) : Int) < (nc : Int) := by omega
              have hb2 : ((pos r (i + u) : Nat) : Int) < ((L (ch r) : Nat) : Int) := by omega
              have hb3 : ((X (ch r) (pos r (i + u)) : Nat) : Int) < (n : Int) := by omega
              clear ek hX hDx hRx
              have HLn : Hid ((Sel.outTo D above ch pos m r ++ Sel.selTo D above (ch r) (pos r) (i + u)).length ≤ 90300) := by
                have h1 := Sel.outTo_len D above ch pos m r (fun i hi => (unhideR HR).hm i (by omega))
                have h2 := Sel.selTo_len D above (ch r) (pos r) (i + u)
                show _ ≤ 90300
                rw [List.length_append]; omega
              have hlatp : lat (ch r) < (pos r (i + u) : Int) := HH1.out _ (by omega) hkm
              have hearp : (pos r (i + u) : Int) < ear (ch r) := HL2.out _ (by omega)
              have hDe3 := hDe.out
              have HSS : Hid (above < rk (X (ch r) (pos r (i + u))) → Sel.selTo D above (ch r) (pos r) (i + u + 1) = Sel.selTo D above (ch r) (pos r) (i + u) ++ [rk (X (ch r) (pos r (i + u)))]) := by rw [hDe3]; exact fun h => Sel.selTo_hit _ _ _ _ _ hlatp hearp h
              have HSM : Hid (¬ above < rk (X (ch r) (pos r (i + u))) → Sel.selTo D above (ch r) (pos r) (i + u + 1) = Sel.selTo D above (ch r) (pos r) (i + u)) := by rw [hDe3]; exact fun h => Sel.selTo_miss _ _ _ _ _ (fun hh => h hh.2.2)
              clear hDe3
              generalize hpe : pos r (i + u) = pz at *
              have HPE := hideR hpe
              clear hpe
              by_cases hab : above < rk (X (ch r) pz)
              · have HSS := hideR (HSS.out hab)
                have hd : decide (above < rk (X (ch r) pz)) = true := by simpa using hab
                go_wp2
                go_quiet (fail)
                go_wp2_with (first
                  | (at_builtin; refine ranks_step (B := w1.heap.size) (gp := gp) (np := np) (Pz := Pz) rfl _ _ rfl rfl (by exact (unhideR HU).below (below2 _ _ _ _)) hP (by exact fun j hj => kept (below2 _ _ _ _) (unhideR HPx j hj)) ⟨wr.heap.size + 1, 0, none⟩ (rk (X (ch r) pz)) rfl ?hc ?hlen ?hB ?_)
                  | go_in)
                case hc => go_simp
                case hlen => exact Nat.le_trans (Nat.add_le_add_right (Nat.add_le_add hnp HLn.out) 1) (by decide)
                case hB => simp; have := hbu.size; omega
                · intro v' w4 hrk4 hb4
                  have HK4 := hideR hrk4
                  have hb5 : Below w1.heap.size w1 w4 := (hbu.trans ((below2 _ _ _ _).mono hbu.size)).trans hb4
                  clear hrk4 hb4
                  go_wp2
                  go_roundw
                  case rel => exact ⟨u + 1, by omega, by go_num, by rw [← Nat.add_assoc, HSS.out]; exact HK4, hb5⟩
                  case measure => simp [intOf]; omega
              · have HSN := hideR (HSM.out hab)
                clear HSM HSS
                have hd : decide (above < rk (X (ch r) pz)) = false := decide_eq_false hab
                go_wp2
                go_quiet (fail)
                go_wp2
                go_roundw
                case rel => exact ⟨u + 1, by omega, by go_num, by rw [← Nat.add_assoc, HSN.out]; exact (unhideR HU).below (below1 _ _ _), hbu.trans ((below1 _ _ _).mono hbu.size)⟩
                case measure => simp [intOf]; omega
            · have e : i + u = j := by omega
              go_wp2
              go_roundw
              case rel => exact ⟨r + 1, by omega, by go_num, by rw [Sel.outTo, HSE.out, ← e]; exact HU, hbu⟩
              case measure => simp [intOf]; omega
        · have HSE : Hid (Sel.selTo D above (ch r) (pos r) (m r) = Sel.selTo D above (ch r) (pos r) i) := by rw [hDe2]; exact Sel.selTo_end _ _ _ _ _ _ hi (fun k h1 h2 => HH2.out k (by omega) h2)
          clear hDe2
          go_wp2
          all_goals
            refine wp_loop_rounds 1 ?_
            rw [rounds_succ]
            go_wp2
            go_roundw
            case rel => exact ⟨r + 1, by omega, by go_num, by rw [Sel.outTo, HSE.out, HS0.out, List.append_nil]; exact (unhideR HK).below hbw3, hbr.trans (hbw3.mono hbr.size)⟩
            case measure => simp [intOf]; omega
      · have e : r = nr := by omega
        subst e
        go_wp2
        go_ret
        exact ⟨_, rfl, HK.out.base hb0.size, hb0.trans (hbr.mono hb0.size)⟩
end Go.Proofs.Ybulkbhpq
