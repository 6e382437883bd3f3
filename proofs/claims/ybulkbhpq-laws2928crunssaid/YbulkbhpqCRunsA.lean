/- The walk of serialis.LawS2928CRuns (4): what the input's memory holds; the laws on rows that its walk wants. -/
import Derived.Test.YbulkbhpqUnordA
import Derived.Test.YbulkbhpqPlan
import Derived.Laws.CopyOwn
namespace Go.Proofs.Ybulkbhpq
open Go.RowKit
set_option linter.unusedVariables false

theorem rowIs_below {w w' : World} {b : Nat} {t : TypeId} {n : Nat} {f : Nat → Value} (h : w.rowIs b t n f) (hb : Below w.heap.size w w') : w'.rowIs b t n f := h.of_block (hb.block b h.lt)
theorem rowIs_belowB {w w' : World} {B b : Nat} {t : TypeId} {n : Nat} {f : Nat → Value} (h : w.rowIs b t n f) (hb : Below B w w') (hB : b < B) : w'.rowIs b t n f := h.of_block (hb.block b hB)
theorem rowIs_drewN {w : World} {b : Nat} {t : TypeId} {n : Nat} {f : Nat → Value} (h : w.rowIs b t n f) (q : Nat) : (w.drewN q).rowIs b t n f := h

/-- a store at place k, the places below filled already -/
theorem row_fill {w : World} {b : Nat} {t : TypeId} {n k : Nat} {f : Nat → Value} {z v : Value} (h : w.rowIs b t n (fun j => if j < k then f j else z)) (hv : v = f k) : (w.setCell ⟨b, k, none⟩ v).rowIs b t n (fun j => if j < k + 1 then f j else z) :=
  (h.set k v).congr (fun j _ => by
    by_cases e : j = k
    · subst e; simp [hv]
    · by_cases e2 : j < k
      · simp [e, e2, Nat.lt_succ_of_lt e2]
      · have : ¬ j < k + 1 := by omega
        simp [e, e2, this])
theorem row_fill2 {w : World} {b : Nat} {t : TypeId} {n k : Nat} {f : Nat → Value} {z v1 v : Value} (h : w.rowIs b t n (fun j => if j < k then f j else z)) (hv : v = f k) : ((w.setCell ⟨b, k, none⟩ v1).setCell ⟨b, k, none⟩ v).rowIs b t n (fun j => if j < k + 1 then f j else z) :=
  ((h.set k v1).set k v).congr (fun j _ => by
    by_cases e : j = k
    · subst e; simp [hv]
    · by_cases e2 : j < k
      · simp [e, e2, Nat.lt_succ_of_lt e2]
      · have : ¬ j < k + 1 := by omega
        simp [e, e2, this])
theorem row_fill3 {w : World} {b : Nat} {t : TypeId} {n k : Nat} {f : Nat → Value} {z v1 v2 v : Value} (h : w.rowIs b t n (fun j => if j < k then f j else z)) (hv : v = f k) : (((w.setCell ⟨b, k, none⟩ v1).setCell ⟨b, k, none⟩ v2).setCell ⟨b, k, none⟩ v).rowIs b t n (fun j => if j < k + 1 then f j else z) :=
  (((h.set k v1).set k v2).set k v).congr (fun j _ => by
    by_cases e : j = k
    · subst e; simp [hv]
    · by_cases e2 : j < k
      · simp [e, e2, Nat.lt_succ_of_lt e2]
      · have : ¬ j < k + 1 := by omega
        simp [e, e2, this])
theorem row_full {w : World} {b : Nat} {t : TypeId} {n : Nat} {f : Nat → Value} {z : Value} (h : w.rowIs b t n (fun j => if j < n then f j else z)) : w.rowIs b t n f := h.congr (fun j hj => by simp [hj])

/-- 'copy(dst, src)', dst a row of n cells that the call made, src of n elements, whatever its address where n is 0: its run. -/
theorem run_copy_full (w : World) (dT ty elem : TypeId) (hu : Yba.prog.underlying dT = some (.slice elem)) (hsz : (Yba.prog.info? elem).map (·.size) = some 1)
    (g n sCap : Nat) (sp : Option Addr) (t : TypeId) (f0 f : Nat → Value) (hrow : w.rowIs g t n f0)
    (hsrc : 0 < n → ∃ ad, sp = some ad ∧ ∀ j, j < n → w.cell? (ad.add j) = some (f j)) (h1 : ∀ j, j < n → (f j).oneCell' = true) :
    ∃ w', (Builtin.copy_ #[dT, dT] ty #[.slice (some ⟨g, 0, none⟩) n n, .slice sp n sCap]).run Yba.prog w = .ok (goInt n) w' ∧ w'.rowIs g t n f ∧ w.grownBy w' (some g) := by
  by_cases h0 : n = 0
  · subst h0
    exact ⟨w, run_copy_none (P := Yba.prog) w dT dT ty elem (some ⟨g, 0, none⟩) sp 0 0 0 sCap hu hsz rfl, hrow.congr (fun i hi => absurd hi (Nat.not_lt_zero _)), World.grownBy.refl w _⟩
  · obtain ⟨ad, rfl, hcell⟩ := hsrc (by omega)
    obtain ⟨cur, hg, hc, hf⟩ := hrow
    have hlen : ((List.range n).map f).length = n := by simp
    have hget : ∀ j v, ((List.range n).map f)[j]? = some v → j < n ∧ v = f j := by
      intro j v hv
      rw [List.getElem?_map] at hv
      obtain ⟨i, hi, rfl⟩ := Option.map_eq_some_iff.1 hv
      obtain ⟨hlt, he⟩ := List.getElem?_eq_some_iff.1 hi
      simp at hlt he
      exact ⟨hlt, by rw [he]⟩
    have hrun := run_copy_row (P := Yba.prog) w dT dT ty elem g 0 n n ad n sCap cur t ((List.range n).map f) hu hsz hg (by simp) (fun j v hv => by obtain ⟨hj, rfl⟩ := hget j v hv; exact hcell j hj) (by simp; omega) (fun v hv => by obtain ⟨j, hj, rfl⟩ := List.mem_map.1 hv; exact h1 j (List.mem_range.1 hj))
    have e : (cur.toList.take 0 ++ (List.range n).map f ++ cur.toList.drop (0 + ((List.range n).map f).length)) = (List.range n).map f := by
      rw [hlen, List.take_zero, List.nil_append, List.drop_eq_nil_of_le (by simp; omega), List.append_nil]
    rw [e, hlen] at hrun
    refine ⟨_, hrun, ⟨((List.range n).map f).toArray, setRow_heap w g _ _ t _ hg, by simp, fun i hi => by simp [hi]⟩, ?_⟩
    exact ⟨rfl, rfl, rfl, by simp [World.setRow], fun k hk hne => setRow_other w g k _ (fun e => hne (by rw [e]))⟩

/-- what the walk is told of the input's memory -/
structure CIn (ap : Option Addr) (nc pb po : Nat) (A : Nat → Option Addr) (M C qb qo : Nat → Nat) (Z : Nat → Nat → Nat) (al : Option Addr) (nl lb lo : Nat) (lz : Nat → Int) (ae : Option Addr) (ne eb eo : Nat) (ez : Nat → Int)
    (ar : Option Addr) (nr rb ro : Nat) (rz : Nat → Int) (aq : Option Addr) (np qqb qqo : Nat) (pz : Nat → Int) (w : World) : Prop where
  hp : 0 < nc → ap = some ⟨pb, po, none⟩
  cp : ∀ c, c < nc → w.cell? ⟨pb, po + c, none⟩ = some (.slice (A c) (M c) (C c))
  hA : ∀ c, c < nc → 0 < M c → A c = some ⟨qb c, qo c, none⟩
  cz : ∀ c, c < nc → ∀ k, k < M c → w.cell? ⟨qb c, qo c + k, none⟩ = some (.int .u8 (Z c k : Int)) ∧ Z c k ≤ 255
  hl : 0 < nl → al = some ⟨lb, lo, none⟩
  cl : ∀ c, c < nl → w.cell? ⟨lb, lo + c, none⟩ = some (.int .i32 (lz c))
  he : 0 < ne → ae = some ⟨eb, eo, none⟩
  ce : ∀ c, c < ne → w.cell? ⟨eb, eo + c, none⟩ = some (.int .i32 (ez c))
  hr : 0 < nr → ar = some ⟨rb, ro, none⟩
  cr : ∀ c, c < nr → w.cell? ⟨rb, ro + c, none⟩ = some (.int .i64 (rz c))
  hq : 0 < np → aq = some ⟨qqb, qqo, none⟩
  cq : ∀ c, c < np → w.cell? ⟨qqb, qqo + c, none⟩ = some (.int .i64 (pz c))

theorem info28 : (Yba.prog.info? 28).map (fun i => (i.zero, i.size, i.bytes)) = some (some (.slice none 0 0), 1, 24) := by kernel_rfl
theorem info32 : (Yba.prog.info? 32).map (fun i => (i.zero, i.size, i.bytes)) = some (some (.slice none 0 0), 1, 24) := by kernel_rfl
theorem info21 : (Yba.prog.info? 21).map (fun i => (i.zero, i.size, i.bytes)) = some (some (.int .i32 0), 1, 4) := by kernel_rfl
theorem infoS21 : (Yba.prog.info? 21).map (·.size) = some 1 := by kernel_rfl
theorem infoS3 : (Yba.prog.info? 3).map (·.size) = some 1 := by kernel_rfl
theorem info40 : (Yba.prog.info? 40).map (fun i => (i.zero, i.size, i.bytes)) = some (some (.slice none 0 0), 1, 24) := by kernel_rfl

theorem le_step {M : Nat → Nat} {c : Nat} (h : ∀ j, j < c → M j ≤ 300) (hc : M c ≤ 300) (j : Nat) (hj : j < c + 1) : M j ≤ 300 := by
  by_cases e : j = c
  · rw [e]; exact hc
  · exact h j (by omega)

theorem box_cell {w wr : World} {cs : Array Value} {t : TypeId} (hb : Below (w.heap.size + 1) (w.alloc (.cells cs t)) wr) (i : Nat) : wr.cell? ⟨w.heap.size, i, none⟩ = cs[i]? :=
  (hb.cell (p := ⟨w.heap.size, i, none⟩) (by simp)).trans (World.cell?_alloc_at cs t _ i rfl)

/-- the chains' lengths -/
def Ln (M : Nat → Nat) (Z : Nat → Nat → Nat) (i : Nat) : Nat := Plan.en (Z i) (M i)

/-- the rank of transaction t -/
def Rk (nr : Nat) (rz : Nat → Int) (t : Nat) : Int := if nr = 0 then (t : Int) else rz (t % nr)

/-- behind c rounds of the loop that lays the chains and their places; B: the input's box -/
structure Ph2 (B nc : Nat) (M : Nat → Nat) (Z : Nat → Nat → Nat) (c : Nat) (w : World) : Prop where
  sz : w.heap.size = B + 3 + 2 * c
  ch : w.rowIs (B + 1) 28 nc (fun i => if i < c then .slice (some ⟨B + 4 + 2 * i, 0, none⟩) (Ln M Z i) (Ln M Z i) else .slice none 0 0)
  pl : w.rowIs (B + 1 + 1) 32 nc (fun i => if i < c then .slice (some ⟨B + 3 + 2 * i, 0, none⟩) (M i) (M i) else .slice none 0 0)
  ps : ∀ i, i < c → w.rowIs (B + 3 + 2 * i) 21 (M i) (fun k => .int .i32 (Plan.pl (Z i) k : Int))
  tx : ∀ i, i < c → w.rowIs (B + 4 + 2 * i) 3 (Ln M Z i) (fun q => .int .i64 ((Plan.st (Ln M Z) i + q : Nat) : Int))

theorem ph2_start (W1 : World) (B nc : Nat) (M : Nat → Nat) (Z : Nat → Nat → Nat) (h : W1.heap.size = B + 1) :
    Ph2 B nc M Z 0 ((W1.alloc (.cells (madeCells #[.slice none 0 0] nc) 28)).alloc (.cells (madeCells #[.slice none 0 0] nc) 32)) := by
  refine ⟨by simp [h], ?_, ?_, fun i hi => absurd hi (Nat.not_lt_zero _), fun i hi => absurd hi (Nat.not_lt_zero _)⟩
  · have := (World.rowIs_made W1 (.slice none 0 0) nc 28).alloc (.cells (madeCells #[.slice none 0 0] nc) 32)
    rw [h] at this
    exact this.congr (fun i _ => by simp)
  · have := World.rowIs_made (W1.alloc (.cells (madeCells #[.slice none 0 0] nc) 28)) (.slice none 0 0) nc 32
    simp only [World.size_alloc, h] at this
    exact this.congr (fun i _ => by simp)

theorem ph2_step {B nc : Nat} {M : Nat → Nat} {Z : Nat → Nat → Nat} {c : Nat} {w0 w3 w4 : World} (h : Ph2 B nc M Z c w0) (hlt : c < nc)
    (h3 : w3.rowIs w0.heap.size 21 (M c) (fun k => .int .i32 (Plan.pl (Z c) k : Int))) (s3 : w3.heap.size = w0.heap.size + 1) (b3 : Below w0.heap.size w0 w3)
    (h4 : w4.rowIs w3.heap.size 3 (Ln M Z c) (fun q => .int .i64 ((Plan.st (Ln M Z) c + q : Nat) : Int))) (s4 : w4.heap.size = w3.heap.size + 1) (b4 : Below w3.heap.size w3 w4) :
    Ph2 B nc M Z (c + 1) ((w4.setCell ⟨B + 1, c, none⟩ (.slice (some ⟨w3.heap.size, 0, none⟩) (Ln M Z c) (Ln M Z c))).setCell ⟨B + 1 + 1, c, none⟩ (.slice (some ⟨w0.heap.size, 0, none⟩) (M c) (M c))) := by
  have z0 := h.sz
  have z3 : w3.heap.size = B + 4 + 2 * c := by omega
  rw [z0] at h3
  rw [z3] at h4
  have b04 : Below w0.heap.size w0 w4 := b3.trans (b4.mono b3.size)
  refine ⟨by simp [World.setCell]; omega, ?_, ?_, ?_, ?_⟩
  · refine World.rowIs.setOther ?_ (by simp) _
    rw [z3]
    exact row_fill (rowIs_below h.ch b04) rfl
  · rw [z0]
    refine row_fill (World.rowIs.setOther (rowIs_below h.pl b04) (by simp) _) rfl
  · intro i hi
    refine World.rowIs.setOther (World.rowIs.setOther ?_ (by simp; omega) _) (by simp; omega) _
    by_cases e : i = c
    · subst e; exact rowIs_below h3 b4
    · exact rowIs_below (h.ps i (by omega)) b04
  · intro i hi
    refine World.rowIs.setOther (World.rowIs.setOther ?_ (by simp; omega) _) (by simp; omega) _
    by_cases e : i = c
    · subst e; exact h4
    · exact rowIs_below (h.tx i (by omega)) b04


theorem CIn.below {ap : Option Addr} {nc pb po : Nat} {A : Nat → Option Addr} {M C qb qo : Nat → Nat} {Z : Nat → Nat → Nat} {al : Option Addr} {nl lb lo : Nat} {lz : Nat → Int} {ae : Option Addr} {ne eb eo : Nat} {ez : Nat → Int}
    {ar : Option Addr} {nr rb ro : Nat} {rz : Nat → Int} {aq : Option Addr} {np qqb qqo : Nat} {pz : Nat → Int} {w w' : World}
    (h : CIn ap nc pb po A M C qb qo Z al nl lb lo lz ae ne eb eo ez ar nr rb ro rz aq np qqb qqo pz w) (hb : Below w.heap.size w w') : CIn ap nc pb po A M C qb qo Z al nl lb lo lz ae ne eb eo ez ar nr rb ro rz aq np qqb qqo pz w' :=
  ⟨h.hp, fun c hc => kept hb (h.cp c hc), h.hA, fun c hc k hk => ⟨kept hb (h.cz c hc k hk).1, (h.cz c hc k hk).2⟩, h.hl, fun c hc => kept hb (h.cl c hc), h.he, fun c hc => kept hb (h.ce c hc), h.hr, fun c hc => kept hb (h.cr c hc), h.hq, fun c hc => kept hb (h.cq c hc)⟩

/-- what the law's tables hold: the last place that reaches, the first that is reached -/
def La (nl : Nat) (lz : Nat → Int) (c : Nat) : Int := if c < nl then lz c else -1
def Ea (ne : Nat) (ez : Nat → Int) (nc : Nat) (L : Nat → Nat) (c : Nat) : Int := if c < ne then ez c else if c < nc then (L c : Int) else 0

/-- behind the tables: nothing of it is written any more -/
structure Ph3 (B nc : Nat) (M : Nat → Nat) (Z : Nat → Nat → Nat) (W n nr : Nat) (rz la ea : Nat → Int) (RK RC RD LB EB : Nat) (w : World) : Prop where
  ch : w.rowIs (B + 1) 28 nc (fun i => .slice (some ⟨B + 4 + 2 * i, 0, none⟩) (Ln M Z i) (Ln M Z i))
  pl : w.rowIs (B + 1 + 1) 32 nc (fun i => .slice (some ⟨B + 3 + 2 * i, 0, none⟩) (M i) (M i))
  ps : ∀ i, i < nc → w.rowIs (B + 3 + 2 * i) 21 (M i) (fun k => .int .i32 (Plan.pl (Z i) k : Int))
  tx : ∀ i, i < nc → w.rowIs (B + 4 + 2 * i) 3 (Ln M Z i) (fun q => .int .i64 ((Plan.st (Ln M Z) i + q : Nat) : Int))
  rk : w.rowIs RK 3 n (fun t => .int .i64 (Rk nr rz t))
  rc : w.rowIs RC 21 W (fun c => .int .i32 (la c))
  rd : w.rowIs RD 21 W (fun c => .int .i32 (ea c))
  lt : w.rowIs LB 21 W (fun c => .int .i32 (la c))
  et : w.rowIs EB 21 W (fun c => .int .i32 (ea c))

theorem Ph3.below {B nc : Nat} {M : Nat → Nat} {Z : Nat → Nat → Nat} {W n nr : Nat} {rz la ea : Nat → Int} {RK RC RD LB EB : Nat} {w w' : World} (h : Ph3 B nc M Z W n nr rz la ea RK RC RD LB EB w) (hb : Below w.heap.size w w') :
    Ph3 B nc M Z W n nr rz la ea RK RC RD LB EB w' :=
  ⟨rowIs_below h.ch hb, rowIs_below h.pl hb, fun i hi => rowIs_below (h.ps i hi) hb, fun i hi => rowIs_below (h.tx i hi) hb, rowIs_below h.rk hb, rowIs_below h.rc hb, rowIs_below h.rd hb, rowIs_below h.lt hb, rowIs_below h.et hb⟩

/-- the input's box, as it lies -/
def BoxAt (ap al ae ar aq : Option Addr) (nc cpc nl cl ne ce nr cr np cq : Nat) (above : Int) (wrd : Bool) (B : Nat) (w : World) : Prop :=
  ∀ i, w.cell? ⟨B, i, none⟩ = (#[.slice ap nc cpc, .slice al nl cl, .slice ae ne ce, .slice ar nr cr, .int .i64 above, .bool wrd, .slice aq np cq] : Array Value)[i]?

theorem BoxAt.below {ap al ae ar aq : Option Addr} {nc cpc nl cl ne ce nr cr np cq : Nat} {above : Int} {wrd : Bool} {B : Nat} {w w' : World} (h : BoxAt ap al ae ar aq nc cpc nl cl ne ce nr cr np cq above wrd B w) (hb : Below w.heap.size w w') :
    BoxAt ap al ae ar aq nc cpc nl cl ne ce nr cr np cq above wrd B w' := fun i => by
  have hlt : B < w.heap.size := World.block_lt_of_cell? w _ (h 0)
  rw [hb.cell (p := ⟨B, i, none⟩) hlt]
  exact h i

/-- the law's text from its k-th statement on; its k-th statement -/
def dropSeq : Nat → Code → Code
  | 0, c => c
  | n + 1, .seq _ b => dropSeq n b
  | _ + 1, c => c
def headSeq : Code → Code
  | .seq a _ => a
  | c => c
end Go.Proofs.Ybulkbhpq
