/- decodeEntryHeader (7). -/
import Derived.Test.YbulkbhqeGet
import Derived.Test.YbulkbhqeEnc
import Derived.Deep.Cut
import Derived.Laws.ResultCell
import Derived.Laws.Rows
namespace Go.Proofs.Ybulkbhqe
open Go.RowKit
set_option linter.unusedVariables false
set_option linter.unusedSimpArgs false

theorem below_drewN {B : Nat} {w w' : World} (h : Below B w w') (q : Nat) : Below B w (w'.drewN q) := ⟨h.os, h.tape, h.output, h.size, h.block⟩
theorem alloc_drewN (w : World) (q : Nat) (o : Obj) : (w.drewN q).alloc o = (w.alloc o).drewN q := rfl
theorem setCell_drewN (w : World) (q : Nat) (a : Addr) (v : Value) : (w.drewN q).setCell a v = (w.setCell a v).drewN q := rfl
attribute [local go_sem] alloc_drewN setCell_drewN
theorem hideR {p : Prop} (h : p) : Hid p := h

/-- the six cells of an entry at block E -/
def EntryAt (E : Nat) (off file record before kind length : Int) (w : World) : Prop :=
  w.rowIs E 27 6 (fun j => match j with | 0 => .int .i64 off | 1 => .int .u32 file | 2 => .int .u32 record | 3 => .int .i64 before | 4 => .int .u32 kind | _ => .int .i64 length)

theorem entry_new (w : World) (E : Nat) (hE : E = w.heap.size) (off file record before kind length : Int) : EntryAt E off file record before kind length (w.alloc (.cells #[.int .i64 off, .int .u32 file, .int .u32 record, .int .i64 before, .int .u32 kind, .int .i64 length] 27)) := by
  subst hE
  refine World.rowIs_alloc w _ 27 _ ?_
  intro i hi
  match i with
  | 0 | 1 | 2 | 3 | 4 | 5 => rfl
  | n + 6 => simp at hi; omega
theorem entry_alloc {w : World} {E : Nat} {off file record before kind length : Int} {o : Obj} (h : EntryAt E off file record before kind length w) : EntryAt E off file record before kind length (w.alloc o) := World.rowIs.alloc h o
theorem entry_drewN {w : World} {E : Nat} {off file record before kind length : Int} {q : Nat} (h : EntryAt E off file record before kind length w) : EntryAt E off file record before kind length (w.drewN q) := h

theorem entry_set {w : World} {H : Nat} {o f r b k l off file record before kind length : Int} (h : EntryAt H o f r b k l w) :
    EntryAt H off file record before kind length ((((((w.setCell ⟨H, 0, none⟩ (.int .i64 off)).setCell ⟨H, 1, none⟩ (.int .u32 file)).setCell ⟨H, 2, none⟩ (.int .u32 record)).setCell ⟨H, 3, none⟩ (.int .i64 before)).setCell ⟨H, 4, none⟩ (.int .u32 kind)).setCell ⟨H, 5, none⟩ (.int .i64 length)) := by
  refine ((((((World.rowIs.set h 0 _).set 1 _).set 2 _).set 3 _).set 4 _).set 5 _).congr ?_
  intro i hi
  match i with
  | 0 | 1 | 2 | 3 | 4 | 5 => rfl
  | n + 6 => omega
theorem entry_drew {w : World} {E : Nat} {off file record before kind length : Int} (h : EntryAt E off file record before kind length w) : EntryAt E off file record before kind length w.drew := h
theorem below_set {B : Nat} {a w : World} {H : Nat} {v0 v1 v2 v3 v4 v5 : Value} (h : Below B a w) (hB : B ≤ H) :
    Below B a ((((((w.setCell ⟨H, 0, none⟩ v0).setCell ⟨H, 1, none⟩ v1).setCell ⟨H, 2, none⟩ v2).setCell ⟨H, 3, none⟩ v3).setCell ⟨H, 4, none⟩ v4).setCell ⟨H, 5, none⟩ v5) :=
  (((((h.setCell hB _).setCell hB _).setCell hB _).setCell hB _).setCell hB _).setCell hB _

theorem far6 {w : World} {H E i : Nat} {v v0 v1 v2 v3 v4 v5 : Value} (h : w.cell? ⟨E, i, none⟩ = some v) (hne : E ≠ H) :
    ((((((w.setCell ⟨H, 0, none⟩ v0).setCell ⟨H, 1, none⟩ v1).setCell ⟨H, 2, none⟩ v2).setCell ⟨H, 3, none⟩ v3).setCell ⟨H, 4, none⟩ v4).setCell ⟨H, 5, none⟩ v5).cell? ⟨E, i, none⟩ = some v := by
  refine (World.cell?_of_block (w := w) ?_).trans h
  rw [Below.heap_setCell _ _ _ _ hne, Below.heap_setCell _ _ _ _ hne, Below.heap_setCell _ _ _ _ hne, Below.heap_setCell _ _ _ _ hne, Below.heap_setCell _ _ _ _ hne, Below.heap_setCell _ _ _ _ hne]

theorem far6d {w : World} {H E i : Nat} {v v0 v1 v2 v3 v4 v5 : Value} (h : w.cell? ⟨E, i, none⟩ = some v) (hne : E ≠ H) :
    ((((((w.setCell ⟨H, 0, none⟩ v0).setCell ⟨H, 1, none⟩ v1).setCell ⟨H, 2, none⟩ v2).setCell ⟨H, 3, none⟩ v3).setCell ⟨H, 4, none⟩ v4).setCell ⟨H, 5, none⟩ v5).drew.cell? ⟨E, i, none⟩ = some v := by
  rw [World.cell?_drew]
  exact far6 h hne

theorem infoS27 : (Yba.prog.info? 27).map (·.size) = some 6 := by kernel_rfl
theorem load_entry {w : World} {H : Nat} {off file record before kind length : Int} (h : EntryAt H off file record before kind length w) :
    (loadVar 27 ⟨H, 0, none⟩).run Yba.prog w = .ok (.agg #[.int .i64 off, .int .u32 file, .int .u32 record, .int .i64 before, .int .u32 kind, .int .i64 length]) w := by
  obtain ⟨cur, hg, hc, hf⟩ := h
  have e : cur = #[.int .i64 off, .int .u32 file, .int .u32 record, .int .i64 before, .int .u32 kind, .int .i64 length] := by
    refine Array.ext_getElem? (fun i => ?_)
    match i with
    | 0 | 1 | 2 | 3 | 4 | 5 => rw [hf _ (by omega)]; rfl
    | n + 6 => rw [Array.getElem?_eq_none (by omega), Array.getElem?_eq_none (by simp)]
  have := run_loadVar_row (P := Yba.prog) w H 27 27 cur _ _ hg Yba.underlying27 rfl (by rw [hc]; exact infoS27)
  rw [this, e]

theorem fin {w wf : World} {H : Nat} {off file record before kind length : Int} {ok : Bool} {tmps : Array Value} (h4 : tmps.getD 4 undef = .pointer (some ⟨H, 0, none⟩)) (h5 : tmps.getD 5 undef = .bool ok)
    (hE : EntryAt H off file record before kind length wf) (hB : Below w.heap.size w wf) :
    bodyPost Yba.prog Yba.f7 (fun e w' => e = .returned (.tuple #[.agg #[.int .i64 off, .int .u32 file, .int .u32 record, .int .i64 before, .int .u32 kind, .int .i64 length], .bool ok]) ∧ Below w.heap.size w w') .ret ⟨tmps, []⟩ wf := by
  refine bodyPost_ret (v := .tuple #[.agg #[.int .i64 off, .int .u32 file, .int .u32 record, .int .i64 before, .int .u32 kind, .int .i64 length], .bool ok]) ?_ rfl ⟨rfl, hB⟩
  rw [results_cell_tmp rfl]
  simp only [h4, h5, asAddr, Sem.run_pure, Result.andThen_ok, load_entry hE]

set_option maxHeartbeats 8000000 in
theorem decode (g : Nat) (off kind length file record before : Int) (w : World)
    (G0 : ∀ wx, Below w.heap.size w wx → Calls Yba.prog 10 #[.agg #[], .slice (some ⟨g, 0, none⟩) 24 24] wx fun e w' => e = .returned (.int .u32 kind) ∧ ∃ q, w' = (wx.alloc (.cells #[] 37)).drewN q)
    (G4 : ∀ wx, Below w.heap.size w wx → Calls Yba.prog 10 #[.agg #[], .slice (some ⟨g, 4, none⟩) 20 20] wx fun e w' => e = .returned (.int .u32 length) ∧ ∃ q, w' = (wx.alloc (.cells #[] 37)).drewN q)
    (G8 : ∀ wx, Below w.heap.size w wx → Calls Yba.prog 10 #[.agg #[], .slice (some ⟨g, 8, none⟩) 16 16] wx fun e w' => e = .returned (.int .u32 file) ∧ ∃ q, w' = (wx.alloc (.cells #[] 37)).drewN q)
    (G12 : ∀ wx, Below w.heap.size w wx → Calls Yba.prog 10 #[.agg #[], .slice (some ⟨g, 12, none⟩) 12 12] wx fun e w' => e = .returned (.int .u32 record) ∧ ∃ q, w' = (wx.alloc (.cells #[] 37)).drewN q)
    (G16 : ∀ wx, Below w.heap.size w wx → Calls Yba.prog 11 #[.agg #[], .slice (some ⟨g, 16, none⟩) 8 8] wx fun e w' => e = .returned (.int .u64 (before % 18446744073709551616)) ∧ ∃ q, w' = (wx.alloc (.cells #[] 37)).drewN q)
    (k0 : 0 ≤ kind) (k1 : kind ≤ 4294967295) (l0 : 0 ≤ length) (l1 : length ≤ 4294967295) (b0 : -9223372036854775808 ≤ before) (b1 : before ≤ 9223372036854775807) :
    Calls Yba.prog 7 #[.slice (some ⟨g, 0, none⟩) 24 24, .int .i64 off] w fun e w' =>
      e = .returned (.tuple #[.agg #[.int .i64 off, .int .u32 file, .int .u32 record, .int .i64 before, .int .u32 kind, .int .i64 length],
        .bool ((kind == 1 && decide (length ≤ 1048576) && decide (0 ≤ before)) || (kind == 2 && (length == 0) && decide (0 ≤ before)))]) ∧ Below w.heap.size w w' := by
  obtain ⟨ok, HOK⟩ : ∃ ok, Hid (((kind == 1 && decide (length ≤ 1048576) && decide (0 ≤ before)) || (kind == 2 && (length == 0) && decide (0 ≤ before))) = ok) := ⟨_, rfl⟩
  rw [HOK.out]
  have H0 := hideR G0
  have H4 := hideR G4
  have H8 := hideR G8
  have H12 := hideR G12
  have H16 := hideR G16
  clear G0 G4 G8 G12 G16
  have hwb : IntKind.i64.wrap (before % 18446744073709551616) = before := by rw [IntKind.wrap_i64]; omega
  have hwl : IntKind.i64.wrap length = length := by rw [IntKind.wrap_i64]; omega
  go_enter Yba.func7, Yba.ntmps7
  go_wp2
  go_cut [6] from 7 (fun s6 wc => ∃ E : Nat, s6 = .pointer (some ⟨E, 0, none⟩) ∧ w.heap.size < E ∧ EntryAt E off file record before kind length wc ∧ EntryAt w.heap.size 0 0 0 0 0 0 wc ∧ Below w.heap.size w wc)
  case first =>
    go_region_held3 (fun w' => True) (trivial)
      (first
        | (go_at_call_of 10 (Value.slice (some ⟨g, 0, none⟩) 24 24); refine (H0.out _ (by repeat (first | exact Below.refl _ _ | apply Below.drew | apply below_drewN | refine Below.alloc ?_ (by simp; try omega) _))).mono ?_; rintro e w' ⟨rfl, q, rfl⟩)
        | (go_at_call_of 10 (Value.slice (some ⟨g, 4, none⟩) 20 20); refine (H4.out _ (by repeat (first | exact Below.refl _ _ | apply Below.drew | apply below_drewN | refine Below.alloc ?_ (by simp; try omega) _))).mono ?_; rintro e w' ⟨rfl, q, rfl⟩)
        | (go_at_call_of 10 (Value.slice (some ⟨g, 8, none⟩) 16 16); refine (H8.out _ (by repeat (first | exact Below.refl _ _ | apply Below.drew | apply below_drewN | refine Below.alloc ?_ (by simp; try omega) _))).mono ?_; rintro e w' ⟨rfl, q, rfl⟩)
        | (go_at_call_of 10 (Value.slice (some ⟨g, 12, none⟩) 12 12); refine (H12.out _ (by repeat (first | exact Below.refl _ _ | apply Below.drew | apply below_drewN | refine Below.alloc ?_ (by simp; try omega) _))).mono ?_; rintro e w' ⟨rfl, q, rfl⟩)
        | (go_at_call_of 11 (Value.slice (some ⟨g, 16, none⟩) 8 8); refine (H16.out _ (by repeat (first | exact Below.refl _ _ | apply Below.drew | apply below_drewN | refine Below.alloc ?_ (by simp; try omega) _))).mono ?_; rintro e w' ⟨rfl, q, rfl⟩))
    all_goals go_wp2_with fail
    all_goals go_meet
    all_goals refine ⟨_, rfl, by omega, ?_, ?_, ?_⟩
    all_goals first
      | (repeat (first | exact entry_new _ _ (by simp) _ _ _ _ _ _ | apply entry_alloc | apply entry_drewN)); done
      | (repeat (first | exact Below.refl _ _ | apply Below.drew | apply below_drewN | refine Below.alloc ?_ (by simp; try omega) _)); done
  case rest =>
    obtain ⟨E, rfl, hE, hA, hZ, hb⟩ := hcut
    have e0 : wc.cell? ⟨E, 0, none⟩ = some (.int .i64 off) := hA.cell (by omega)
    have e1 : wc.cell? ⟨E, 1, none⟩ = some (.int .u32 file) := hA.cell (by omega)
    have e2 : wc.cell? ⟨E, 2, none⟩ = some (.int .u32 record) := hA.cell (by omega)
    have e3 : wc.cell? ⟨E, 3, none⟩ = some (.int .i64 before) := hA.cell (by omega)
    have e4 : wc.cell? ⟨E, 4, none⟩ = some (.int .u32 kind) := hA.cell (by omega)
    have e5 : wc.cell? ⟨E, 5, none⟩ = some (.int .i64 length) := hA.cell (by omega)
    have z0 : wc.cell? ⟨w.heap.size, 0, none⟩ = some (.int .i64 0) := hZ.cell (by omega)
    have z1 : wc.cell? ⟨w.heap.size, 1, none⟩ = some (.int .u32 0) := hZ.cell (by omega)
    have z2 : wc.cell? ⟨w.heap.size, 2, none⟩ = some (.int .u32 0) := hZ.cell (by omega)
    have z3 : wc.cell? ⟨w.heap.size, 3, none⟩ = some (.int .i64 0) := hZ.cell (by omega)
    have z4 : wc.cell? ⟨w.heap.size, 4, none⟩ = some (.int .u32 0) := hZ.cell (by omega)
    have z5 : wc.cell? ⟨w.heap.size, 5, none⟩ = some (.int .i64 0) := hZ.cell (by omega)
    have x0 := hZ.frozen 0
    have x1 := hZ.frozen 1
    have x2 := hZ.frozen 2
    have x3 := hZ.frozen 3
    have x4 := hZ.frozen 4
    have x5 := hZ.frozen 5
    have HZ := hideR hZ
    have hne : E ≠ w.heap.size := by omega
    have hne2 : w.heap.size ≠ E := by omega
    clear hA hZ H0 H4 H8 H12 H16
    by_cases c1 : kind = 1
    · subst c1
      by_cases d1 : length ≤ 1048576
      · have t1 : decide (length ≤ 1048576) = true := by simpa using d1
        by_cases d2 : 0 ≤ before
        · have t2 : decide (0 ≤ before) = true := by simpa using d2
          obtain rfl : true = ok := by rw [← HOK.out]; simp [d1, d2]
          go_wp2
          go_region_held3 (fun w' => w'.cell? ⟨E, 0, none⟩ = some (.int .i64 off) ∧ w'.cell? ⟨E, 1, none⟩ = some (.int .u32 file) ∧ w'.cell? ⟨E, 2, none⟩ = some (.int .u32 record) ∧ w'.cell? ⟨E, 3, none⟩ = some (.int .i64 before) ∧ w'.cell? ⟨E, 4, none⟩ = some (.int .u32 1) ∧ w'.cell? ⟨E, 5, none⟩ = some (.int .i64 length)) (first | go_keep | (simp only [World.cell?_drew]; exact ⟨far6 e0 hne, far6 e1 hne, far6 e2 hne, far6 e3 hne, far6 e4 hne, far6 e5 hne⟩)) (fail)
          all_goals go_wp2
          all_goals (try simp only [Exit.inBlock, Exit.then])
          all_goals with_reducible refine fin (H := w.heap.size) ?_ ?_ ?_ ?_
          all_goals first
            | with_reducible exact entry_set HZ.out
            | with_reducible exact entry_drew (entry_set HZ.out)
            | with_reducible exact Below.drew (below_set hb (Nat.le_refl _))
            | with_reducible exact below_set hb (Nat.le_refl _)
            | rfl
            | trace_state
        · have t2 : decide (0 ≤ before) = false := by simpa using d2
          obtain rfl : false = ok := by rw [← HOK.out]; simp [d1, d2]
          go_wp2
          go_region_held3 (fun w' => w'.cell? ⟨E, 0, none⟩ = some (.int .i64 off) ∧ w'.cell? ⟨E, 1, none⟩ = some (.int .u32 file) ∧ w'.cell? ⟨E, 2, none⟩ = some (.int .u32 record) ∧ w'.cell? ⟨E, 3, none⟩ = some (.int .i64 before) ∧ w'.cell? ⟨E, 4, none⟩ = some (.int .u32 1) ∧ w'.cell? ⟨E, 5, none⟩ = some (.int .i64 length)) (first | go_keep | (simp only [World.cell?_drew]; exact ⟨far6 e0 hne, far6 e1 hne, far6 e2 hne, far6 e3 hne, far6 e4 hne, far6 e5 hne⟩)) (fail)
          all_goals go_wp2
          all_goals (try simp only [Exit.inBlock, Exit.then])
          all_goals with_reducible refine fin (H := w.heap.size) ?_ ?_ ?_ ?_
          all_goals first
            | with_reducible exact entry_set HZ.out
            | with_reducible exact entry_drew (entry_set HZ.out)
            | with_reducible exact Below.drew (below_set hb (Nat.le_refl _))
            | with_reducible exact below_set hb (Nat.le_refl _)
            | rfl
            | trace_state
      · have t1 : decide (length ≤ 1048576) = false := by simpa using d1
        obtain rfl : false = ok := by rw [← HOK.out]; simp [d1]
        go_wp2
        go_region
        all_goals go_wp2
        all_goals (try simp only [Exit.inBlock, Exit.then])
        all_goals with_reducible refine fin (H := w.heap.size) ?_ ?_ ?_ ?_
        all_goals first
          | with_reducible exact entry_set HZ.out
          | with_reducible exact entry_drew (entry_set HZ.out)
          | with_reducible exact Below.drew (below_set hb (Nat.le_refl _))
          | with_reducible exact below_set hb (Nat.le_refl _)
          | rfl
          | trace_state
    · by_cases c2 : kind = 2
      · subst c2
        by_cases d1 : length = 0
        · subst d1
          by_cases d2 : 0 ≤ before
          · have t2 : decide (0 ≤ before) = true := by simpa using d2
            obtain rfl : true = ok := by rw [← HOK.out]; simp [d2]
            go_wp2
            go_region_held3 (fun w' => w'.cell? ⟨E, 0, none⟩ = some (.int .i64 off) ∧ w'.cell? ⟨E, 1, none⟩ = some (.int .u32 file) ∧ w'.cell? ⟨E, 2, none⟩ = some (.int .u32 record) ∧ w'.cell? ⟨E, 3, none⟩ = some (.int .i64 before) ∧ w'.cell? ⟨E, 4, none⟩ = some (.int .u32 2) ∧ w'.cell? ⟨E, 5, none⟩ = some (.int .i64 0)) (first | go_keep | (simp only [World.cell?_drew]; exact ⟨far6 e0 hne, far6 e1 hne, far6 e2 hne, far6 e3 hne, far6 e4 hne, far6 e5 hne⟩)) (fail)
            all_goals go_wp2
            all_goals (try simp only [Exit.inBlock, Exit.then])
            all_goals with_reducible refine fin (H := w.heap.size) ?_ ?_ ?_ ?_
            all_goals first
              | with_reducible exact entry_set HZ.out
              | with_reducible exact entry_drew (entry_set HZ.out)
              | with_reducible exact Below.drew (below_set hb (Nat.le_refl _))
              | with_reducible exact below_set hb (Nat.le_refl _)
              | rfl
              | trace_state
          · have t2 : decide (0 ≤ before) = false := by simpa using d2
            obtain rfl : false = ok := by rw [← HOK.out]; simp [d2]
            go_wp2
            go_region_held3 (fun w' => w'.cell? ⟨E, 0, none⟩ = some (.int .i64 off) ∧ w'.cell? ⟨E, 1, none⟩ = some (.int .u32 file) ∧ w'.cell? ⟨E, 2, none⟩ = some (.int .u32 record) ∧ w'.cell? ⟨E, 3, none⟩ = some (.int .i64 before) ∧ w'.cell? ⟨E, 4, none⟩ = some (.int .u32 2) ∧ w'.cell? ⟨E, 5, none⟩ = some (.int .i64 0)) (first | go_keep | (simp only [World.cell?_drew]; exact ⟨far6 e0 hne, far6 e1 hne, far6 e2 hne, far6 e3 hne, far6 e4 hne, far6 e5 hne⟩)) (fail)
            all_goals go_wp2
            all_goals (try simp only [Exit.inBlock, Exit.then])
            all_goals with_reducible refine fin (H := w.heap.size) ?_ ?_ ?_ ?_
            all_goals first
              | with_reducible exact entry_set HZ.out
              | with_reducible exact entry_drew (entry_set HZ.out)
              | with_reducible exact Below.drew (below_set hb (Nat.le_refl _))
              | with_reducible exact below_set hb (Nat.le_refl _)
              | rfl
              | trace_state
        · have t1 : (length == 0) = false := by simpa using d1
          obtain rfl : false = ok := by rw [← HOK.out]; simp [d1]
          go_wp2
          go_region
          all_goals go_wp2
          all_goals (try simp only [Exit.inBlock, Exit.then])
          all_goals with_reducible refine fin (H := w.heap.size) ?_ ?_ ?_ ?_
          all_goals first
            | with_reducible exact entry_set HZ.out
            | with_reducible exact entry_drew (entry_set HZ.out)
            | with_reducible exact Below.drew (below_set hb (Nat.le_refl _))
            | with_reducible exact below_set hb (Nat.le_refl _)
            | rfl
            | trace_state
      · have t1 : (kind == 1) = false := by simpa using c1
        have t2 : (kind == 2) = false := by simpa using c2
        obtain rfl : false = ok := by rw [← HOK.out, t1, t2]; rfl
        go_wp2
        all_goals (try simp only [Exit.inBlock, Exit.then])
        all_goals with_reducible refine fin (H := w.heap.size) ?_ ?_ ?_ ?_
        all_goals first
          | with_reducible exact entry_set HZ.out
          | with_reducible exact entry_drew (entry_set HZ.out)
          | with_reducible exact Below.drew (below_set hb (Nat.le_refl _))
          | with_reducible exact below_set hb (Nat.le_refl _)
          | rfl
          | trace_state
end Go.Proofs.Ybulkbhqe
