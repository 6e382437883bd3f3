/- The arguments of LawS2928AExact, opened: []uint8; a slice of structs {bool, uint8, []uint8}; arrays of four. -/
import Derived.Test.YbulkbhpqDoorProg
import Derived.Deep.Slices
import Derived.Laws.IdiomArrays
import Derived.ChangeSlices
import Derived.WideShapes
import Derived.KernelRfl
namespace Go.Proofs.YbulkbhpqDoor
open Go.ChangeShapes Go.WideShapes Go.Deep
set_option linter.unusedVariables false
set_option maxRecDepth 100000

section
variable {H : Type} {enc : TypeId × Value → H} {w : World} {held : Bool}

theorem spot_plain {a : Addr} {v : Value} (h : w.cell? (a.add 0) = some v) : ∃ b o, a = ⟨b, o, none⟩ := by
  obtain ⟨b, o, spot⟩ := a
  have hs : spot = none := by simpa [Addr.add] using World.cell?_spot h
  subst hs
  exact ⟨b, o, rfl⟩

theorem bd8 {n : Int} (h : (Lit.int .u8 n).wf = true) : 0 ≤ n ∧ n ≤ 255 := by
  simp [Lit.wf, IntKind.min, IntKind.max, IntKind.signed, IntKind.bits] at h
  omega
theorem bd16 {n : Int} (h : (Lit.int .i16 n).wf = true) : -32768 ≤ n ∧ n ≤ 32767 := by
  simp [Lit.wf, IntKind.min, IntKind.max, IntKind.signed, IntKind.bits] at h
  omega

theorem k22 : Ybad.prog.cellsOf 22 = 1 := by kernel_rfl
theorem k5 : Ybad.prog.cellsOf 5 = 1 := by kernel_rfl
theorem k4 : Ybad.prog.cellsOf 4 = 1 := by kernel_rfl
theorem k25 : Ybad.prog.cellsOf 25 = 1 := by kernel_rfl
theorem k29 : Ybad.prog.cellsOf 29 = 3 := by kernel_rfl
theorem k24 : Ybad.prog.cellsOf 24 = 4 := by kernel_rfl
theorem k26 : Ybad.prog.cellsOf 26 = 4 := by kernel_rfl
theorem k27 : Ybad.prog.cellsOf 27 = 4 := by kernel_rfl

/-- a slice of bytes that came in -/
def IsBytes (w : World) (ao : Option Addr) (len b o : Nat) (z : Nat → Nat) : Prop := (0 < len → ao = some ⟨b, o, none⟩) ∧ ∀ i, i < len → w.cell? ⟨b, o + i, none⟩ = some (.int .u8 (z i : Int)) ∧ z i ≤ 255

theorem bytes_in {fuel : Nat} {v : Value} {y : DataW H × List MemPlace} (h : DataW.trod enc Ybad.prog w 0 (fun _ => true) held fuel 22 [v] = some y) :
    ∃ (ao : Option Addr) (len cap b o : Nat) (z : Nat → Nat), v = .slice ao len cap ∧ IsBytes w ao len b o z := by
  rcases open_ints Ybad.underlying22 Ybad.underlying5 k5 h with ⟨hcs, _⟩ | ⟨a, len, cap, zs, hcs, _, hl, hm, hz, _, hcell, hwz⟩
  · simp at hcs
    exact ⟨none, 0, 0, 0, 0, fun _ => 0, hcs, fun h => absurd h (Nat.lt_irrefl _), fun i hi => absurd hi (Nat.not_lt_zero _)⟩
  · simp at hcs
    simp only [if_true] at hz
    by_cases h0 : len = 0
    · subst h0
      exact ⟨some a, 0, cap, 0, 0, fun _ => 0, hcs, fun h => absurd h (Nat.lt_irrefl _), fun i hi => absurd hi (Nat.not_lt_zero _)⟩
    · obtain ⟨b, o, rfl⟩ := spot_plain (hcell 0 (by omega))
      refine ⟨_, len, cap, b, o, fun i => (zs.getD i 0).toNat, hcs, fun _ => rfl, fun i hi => ?_⟩
      have hb := bd8 (hwz (zs.getD i 0) (by simp [List.getD, List.getElem?_eq_getElem (show i < zs.length by omega)]))
      have := hcell i (by omega)
      rw [add_plain] at this
      show w.cell? ⟨b, o + i, none⟩ = some (.int .u8 (((zs.getD i 0).toNat : Nat) : Int)) ∧ (zs.getD i 0).toNat ≤ 255
      rw [Int.toNat_of_nonneg hb.1]
      exact ⟨this, by omega⟩

theorem reads_in {fuel : Nat} {v : Value} {y : DataW H × List MemPlace} (h : DataW.trod enc Ybad.prog w 0 (fun _ => true) held fuel 23 [v] = some y) :
    ∃ (ar : Option Addr) (nr cr rb ro : Nat) (wrt : Nat → Bool) (rat : Nat → Nat) (ia : Nat → Option Addr) (ni ic qb qo : Nat → Nat) (z : Nat → Nat → Nat), v = .slice ar nr cr ∧ (0 < nr → ar = some ⟨rb, ro, none⟩) ∧
      ∀ i, i < nr → w.cell? ⟨rb, ro + i * 3, none⟩ = some (.bool (wrt i)) ∧ (w.cell? ⟨rb, ro + i * 3 + 1, none⟩ = some (.int .u8 (rat i : Int)) ∧ rat i ≤ 255) ∧ w.cell? ⟨rb, ro + i * 3 + 2, none⟩ = some (.slice (ia i) (ni i) (ic i)) ∧ IsBytes w (ia i) (ni i) (qb i) (qo i) (z i) := by
  rcases open_slice Ybad.underlying23 h with ⟨hcs, _⟩ | ⟨a, len, cap, m, n, D, Pl, hcs, _, hl, hm, hmm, _, hx⟩
  · simp at hcs
    exact ⟨none, 0, 0, 0, 0, fun _ => false, fun _ => 0, fun _ => none, fun _ => 0, fun _ => 0, fun _ => 0, fun _ => 0, fun _ _ => 0, hcs, fun h => absurd h (Nat.lt_irrefl _), fun i hi => absurd hi (Nat.not_lt_zero _)⟩
  · simp at hcs
    simp only [if_true] at hmm
    rw [k29] at hx
    have each : ∀ i, i < len → ∃ q : (Bool × Nat) × (Option Addr × Nat × Nat × Nat × Nat) × (Nat → Nat), w.cell? (a.add (i * 3)) = some (.bool q.1.1) ∧ (w.cell? (a.add (i * 3 + 1)) = some (.int .u8 (q.1.2 : Int)) ∧ q.1.2 ≤ 255) ∧
        w.cell? (a.add (i * 3 + 2)) = some (.slice q.2.1.1 q.2.1.2.1 q.2.1.2.2.1) ∧ IsBytes w q.2.1.1 q.2.1.2.1 q.2.1.2.2.2.1 q.2.1.2.2.2.2 q.2.2 := by
      intro i hi
      obtain ⟨cs', h1, h2⟩ := hx i (by omega)
      obtain ⟨_, hlen, hcell⟩ := World.cells?_some h1
      obtain ⟨xs, k, hk, hxy, _, hxl, hf⟩ := DataW.trod_struct Ybad.underlying29 h2
      have hxl' : xs.length = 3 := hxl
      match cs', hlen with
      | [v0, v1, v2], _ =>
        have g0 := hf 0 _ rfl
        have g1 := hf 1 _ rfl
        have g2 := hf 2 _ rfl
        rw [List.getElem?_eq_getElem (by omega)] at g0 g1 g2
        have g0' : DataW.trod enc Ybad.prog w 0 (fun _ => true) held k 4 [v0] = some xs[0] := by simpa [k4] using g0
        have g1' : DataW.trod enc Ybad.prog w 0 (fun _ => true) held k 5 [v1] = some xs[1] := by simpa [k5] using g1
        have g2' : DataW.trod enc Ybad.prog w 0 (fun _ => true) held k 22 [v2] = some xs[2] := by simpa [k22] using g2
        have e0 := hcell 0 (by omega)
        have e1 := hcell 1 (by omega)
        have e2 := hcell 2 (by omega)
        rw [add_add] at e0 e1 e2
        obtain ⟨b, hb, _⟩ := DataW.trod_bool Ybad.underlying4 g0'
        obtain ⟨r, hr, _, hw⟩ := DataW.trod_int Ybad.underlying5 g1'
        obtain ⟨ao, ln, cp, qb, qo, z, hv2, hz⟩ := bytes_in g2'
        simp only [List.cons.injEq, and_true] at hb hr
        subst hb hr hv2
        have hb8 := bd8 hw
        refine ⟨((b, r.toNat), (ao, ln, cp, qb, qo), z), by simpa using e0, ⟨?_, ?_⟩, by simpa using e2, hz⟩
        · show w.cell? (a.add (i * 3 + 1)) = some (.int .u8 ((r.toNat : Nat) : Int))
          rw [Int.toNat_of_nonneg hb8.1]
          simpa using e1
        · show r.toNat ≤ 255
          omega
    obtain ⟨f, hf⟩ := choose_lt each
    by_cases h0 : len = 0
    · subst h0
      exact ⟨some a, 0, cap, 0, 0, fun _ => false, fun _ => 0, fun _ => none, fun _ => 0, fun _ => 0, fun _ => 0, fun _ => 0, fun _ _ => 0, hcs, fun h => absurd h (Nat.lt_irrefl _), fun i hi => absurd hi (Nat.not_lt_zero _)⟩
    · obtain ⟨b, o, rfl⟩ := spot_plain (v := .bool (f 0).1.1) (by simpa using (hf 0 (by omega)).1)
      refine ⟨_, len, cap, b, o, fun i => (f i).1.1, fun i => (f i).1.2, fun i => (f i).2.1.1, fun i => (f i).2.1.2.1, fun i => (f i).2.1.2.2.1, fun i => (f i).2.1.2.2.2.1, fun i => (f i).2.1.2.2.2.2, fun i => (f i).2.2, hcs, fun _ => rfl, fun i hi => ?_⟩
      have := hf i hi
      rw [add_plain, add_plain, add_plain] at this
      exact this

theorem arr4 {cs : Array Value} (h : cs.size = 4) : ∃ c0 c1 c2 c3, cs = #[c0, c1, c2, c3] := by
  obtain ⟨l⟩ := cs
  match l, h with
  | [c0, c1, c2, c3], _ => exact ⟨c0, c1, c2, c3, rfl⟩

theorem okWide_array {P : Program} {r : Reach} {b0 n : Nat} {t e : TypeId} {v : Value} (ht : P.underlying t = some (.array n e)) (h : Value.okWide P w r b0 t v) : ∃ cs, v = .agg cs ∧ cs.size = P.cellsOf t := by
  simp only [Value.okWide, ht] at h
  obtain ⟨cs, h1, h2, _⟩ := h
  exact ⟨cs, h1, h2⟩

/-- four things as a function -/
def four {α : Type} (a b c d : α) (x : Nat) : α := match x with | 0 => a | 1 => b | 2 => c | _ => d

theorem wats_in {r : Reach} {b0 : Nat} {v : Value} {d : DataW H} {p : List MemPlace} (hv : Value.okWide Ybad.prog w r b0 24 v) (h : DataW.Trod enc Ybad.prog w 0 (fun _ => true) held 24 v d p) :
    ∃ (ta : Nat → Option Addr) (tn tc tb to : Nat → Nat) (tz : Nat → Nat → Nat), v = .agg #[.slice (ta 0) (tn 0) (tc 0), .slice (ta 1) (tn 1) (tc 1), .slice (ta 2) (tn 2) (tc 2), .slice (ta 3) (tn 3) (tc 3)] ∧ ∀ x, x < 4 → IsBytes w (ta x) (tn x) (tb x) (to x) (tz x) := by
  obtain ⟨cs, rfl, hsz⟩ := okWide_array Ybad.underlying24 hv
  obtain ⟨c0, c1, c2, c3, rfl⟩ := arr4 (hsz.trans k24)
  obtain ⟨fuel, hf⟩ := h
  obtain ⟨_, _, _, _, n, _, g0, g1, g2, g3⟩ := trod_array4 Ybad.underlying24 k22 hf
  obtain ⟨a0, l0, k0, b0, o0, z0, rfl, i0⟩ := bytes_in g0
  obtain ⟨a1, l1, k1, b1, o1, z1, rfl, i1⟩ := bytes_in g1
  obtain ⟨a2, l2, k2, b2, o2, z2, rfl, i2⟩ := bytes_in g2
  obtain ⟨a3, l3, k3, b3, o3, z3, rfl, i3⟩ := bytes_in g3
  exact ⟨four a0 a1 a2 a3, four l0 l1 l2 l3, four k0 k1 k2 k3, four b0 b1 b2 b3, four o0 o1 o2 o3, four z0 z1 z2 z3, rfl, fun x hx => match x, hx with
    | 0, _ => i0
    | 1, _ => i1
    | 2, _ => i2
    | 3, _ => i3⟩

theorem sats_in {r : Reach} {b0 : Nat} {v : Value} {d : DataW H} {p : List MemPlace} (hv : Value.okWide Ybad.prog w r b0 26 v) (h : DataW.Trod enc Ybad.prog w 0 (fun _ => true) held 26 v d p) :
    ∃ sa : Nat → Int, v = .agg #[.int .i16 (sa 0), .int .i16 (sa 1), .int .i16 (sa 2), .int .i16 (sa 3)] ∧ ∀ x, x < 4 → -32768 ≤ sa x ∧ sa x ≤ 32767 := by
  obtain ⟨cs, rfl, hsz⟩ := okWide_array Ybad.underlying26 hv
  obtain ⟨c0, c1, c2, c3, rfl⟩ := arr4 (hsz.trans k26)
  obtain ⟨fuel, hf⟩ := h
  obtain ⟨_, _, _, _, n, _, g0, g1, g2, g3⟩ := trod_array4 Ybad.underlying26 k25 hf
  obtain ⟨s0, e0, _, w0⟩ := DataW.trod_int Ybad.underlying25 g0
  obtain ⟨s1, e1, _, w1⟩ := DataW.trod_int Ybad.underlying25 g1
  obtain ⟨s2, e2, _, w2⟩ := DataW.trod_int Ybad.underlying25 g2
  obtain ⟨s3, e3, _, w3⟩ := DataW.trod_int Ybad.underlying25 g3
  simp only [List.cons.injEq, and_true] at e0 e1 e2 e3
  subst e0 e1 e2 e3
  exact ⟨four s0 s1 s2 s3, rfl, fun x hx => match x, hx with
    | 0, _ => bd16 w0
    | 1, _ => bd16 w1
    | 2, _ => bd16 w2
    | 3, _ => bd16 w3⟩

theorem sfin_in {r : Reach} {b0 : Nat} {v : Value} {d : DataW H} {p : List MemPlace} (hv : Value.okWide Ybad.prog w r b0 27 v) (h : DataW.Trod enc Ybad.prog w 0 (fun _ => true) held 27 v d p) :
    ∃ sf : Nat → Bool, v = .agg #[.bool (sf 0), .bool (sf 1), .bool (sf 2), .bool (sf 3)] := by
  obtain ⟨cs, rfl, hsz⟩ := okWide_array Ybad.underlying27 hv
  obtain ⟨c0, c1, c2, c3, rfl⟩ := arr4 (hsz.trans k27)
  obtain ⟨fuel, hf⟩ := h
  obtain ⟨_, _, _, _, n, _, g0, g1, g2, g3⟩ := trod_array4 Ybad.underlying27 k4 hf
  obtain ⟨s0, e0, _⟩ := DataW.trod_bool Ybad.underlying4 g0
  obtain ⟨s1, e1, _⟩ := DataW.trod_bool Ybad.underlying4 g1
  obtain ⟨s2, e2, _⟩ := DataW.trod_bool Ybad.underlying4 g2
  obtain ⟨s3, e3, _⟩ := DataW.trod_bool Ybad.underlying4 g3
  simp only [List.cons.injEq, and_true] at e0 e1 e2 e3
  subst e0 e1 e2 e3
  exact ⟨four s0 s1 s2 s3, rfl⟩
end
end Go.Proofs.YbulkbhpqDoor
