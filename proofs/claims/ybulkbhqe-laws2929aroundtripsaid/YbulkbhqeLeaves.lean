/- The small functions on the roads of LawS2929AExact and LawS2929ARoundTrip: binary.BigEndian's PutUint32 (8), PutUint64 (9), Uint32 (10), Uint64 (11), and zzs2929aput (6). -/
import Derived.Test.YbulkbhqeProg
import Derived.WalkKit
import Derived.WalkSpells
import Derived.WalkSmall
import Derived.BigRegion
import Derived.Deep.RegionWith
import Derived.Deep.RegionHeld3
import Derived.Deep.QuietTactic
import Derived.Deep.OwnRows
import Derived.BigQuiet
import Derived.Lib.EndianBits
namespace Go.Proofs.Ybulkbhqe
open Go.RowKit
set_option linter.unusedVariables false

/-- The row f with the k low bytes of v written from place o on, the greatest first. -/
def put (f : Nat → Value) (o k : Nat) (v : Int) : Nat → Value := fun j => if o ≤ j ∧ j < o + k then .int .u8 (v / 2 ^ (8 * (k - 1 - (j - o))) % 256) else f j

/-- Only block g of what was there has turned. -/
structure Kp (g : Nat) (w w' : World) : Prop where
  below : ∀ B, B ≤ g → B ≤ w.heap.size → Below B w w'
  other : ∀ a, a < w.heap.size → a ≠ g → w'.heap[a]? = w.heap[a]?

theorem Kp.size {g : Nat} {w w' : World} (h : Kp g w w') : w.heap.size ≤ w'.heap.size := (h.below 0 (Nat.zero_le _) (Nat.zero_le _)).size
theorem Kp.refl (g : Nat) (w : World) : Kp g w w := ⟨fun B _ _ => Below.refl _ _, fun _ _ _ => rfl⟩
theorem Kp.alloc {g : Nat} {w w' : World} (h : Kp g w w') (o : Obj) : Kp g w (w'.alloc o) :=
  ⟨fun B h1 h2 => (h.below B h1 h2).alloc (by have := h.size; omega) o, fun a h1 h2 => by rw [Below.heap_alloc _ _ _ (by have := h.size; omega)]; exact h.other a h1 h2⟩
theorem Kp.drew {g : Nat} {w w' : World} (h : Kp g w w') : Kp g w w'.drew := ⟨fun B h1 h2 => (h.below B h1 h2).drew, h.other⟩
theorem Kp.setCell {g i : Nat} {w w' : World} (h : Kp g w w') (v : Value) : Kp g w (w'.setCell ⟨g, i, none⟩ v) :=
  ⟨fun B h1 h2 => (h.below B h1 h2).setCell h1 v, fun a h1 h2 => by rw [Below.heap_setCell _ _ _ _ h2]; exact h.other a h1 h2⟩
theorem Kp.trans {g : Nat} {w w' w'' : World} (h : Kp g w w') (k : Kp g w' w'') : Kp g w w'' :=
  ⟨fun B h1 h2 => (h.below B h1 h2).trans (k.below B h1 (by have := h.size; omega)), fun a h1 h2 => (k.other a (by have := h.size; omega) h2).trans (h.other a h1 h2)⟩
theorem Kp.cell {g : Nat} {w w' : World} (h : Kp g w w') {a : Addr} {v : Value} (hc : w.cell? a = some v) (hne : a.block ≠ g) : w'.cell? a = some v := by
  rw [World.cell?_of_block (w := w) (h.other _ (World.block_lt_of_cell? w _ hc) hne)]; exact hc

theorem p0 : (2 : Int) ^ 0 = 1 := rfl
theorem p8 : (2 : Int) ^ 8 = 256 := rfl
theorem p16 : (2 : Int) ^ 16 = 65536 := rfl
theorem p24 : (2 : Int) ^ 24 = 16777216 := rfl
theorem p32 : (2 : Int) ^ 32 = 4294967296 := rfl
theorem p40 : (2 : Int) ^ 40 = 1099511627776 := rfl
theorem p48 : (2 : Int) ^ 48 = 281474976710656 := rfl
theorem p56 : (2 : Int) ^ 56 = 72057594037927936 := rfl

theorem put4_of {w : World} {g t N o : Nat} {f : Nat → Value} {v : Int} (R : w.rowIs g t N f) {x0 x1 x2 x3 : Int}
    (e0 : x0 = v / 16777216 % 256) (e1 : x1 = v / 65536 % 256) (e2 : x2 = v / 256 % 256) (e3 : x3 = v % 256) :
    ((((w.setCell ⟨g, o, none⟩ (.int .u8 x0)).setCell ⟨g, o + 1, none⟩ (.int .u8 x1)).setCell ⟨g, o + 2, none⟩ (.int .u8 x2)).setCell ⟨g, o + 3, none⟩ (.int .u8 x3)).rowIs g t N (put f o 4 v) := by
  subst e0 e1 e2 e3
  refine ((((R.set o _).set (o + 1) _).set (o + 2) _).set (o + 3) _).congr ?_
  intro i _
  simp only [put]
  by_cases h3 : i = o + 3
  · subst h3
    rw [if_pos rfl, if_pos (by omega), show 8 * (4 - 1 - (o + 3 - o)) = 0 by omega, p0, Int.ediv_one]
  · rw [if_neg h3]
    by_cases h2 : i = o + 2
    · subst h2
      rw [if_pos rfl, if_pos (by omega), show 8 * (4 - 1 - (o + 2 - o)) = 8 by omega, p8]
    · rw [if_neg h2]
      by_cases h1 : i = o + 1
      · subst h1
        rw [if_pos rfl, if_pos (by omega), show 8 * (4 - 1 - (o + 1 - o)) = 16 by omega, p16]
      · rw [if_neg h1]
        by_cases h0 : i = o
        · subst h0
          rw [if_pos rfl, if_pos (by omega), show 8 * (4 - 1 - (i - i)) = 24 by omega, p24]
        · rw [if_neg h0, if_neg (by omega)]

theorem put8_of {w : World} {g t N o : Nat} {f : Nat → Value} {v : Int} (R : w.rowIs g t N f) {x0 x1 x2 x3 x4 x5 x6 x7 : Int}
    (e0 : x0 = v / 72057594037927936 % 256) (e1 : x1 = v / 281474976710656 % 256) (e2 : x2 = v / 1099511627776 % 256) (e3 : x3 = v / 4294967296 % 256)
    (e4 : x4 = v / 16777216 % 256) (e5 : x5 = v / 65536 % 256) (e6 : x6 = v / 256 % 256) (e7 : x7 = v % 256) :
    ((((((((w.setCell ⟨g, o, none⟩ (.int .u8 x0)).setCell ⟨g, o + 1, none⟩ (.int .u8 x1)).setCell ⟨g, o + 2, none⟩ (.int .u8 x2)).setCell ⟨g, o + 3, none⟩ (.int .u8 x3)).setCell ⟨g, o + 4, none⟩ (.int .u8 x4)).setCell ⟨g, o + 5, none⟩ (.int .u8 x5)).setCell ⟨g, o + 6, none⟩ (.int .u8 x6)).setCell ⟨g, o + 7, none⟩ (.int .u8 x7)).rowIs g t N (put f o 8 v) := by
  subst e0 e1 e2 e3 e4 e5 e6 e7
  refine ((((((((R.set o _).set (o + 1) _).set (o + 2) _).set (o + 3) _).set (o + 4) _).set (o + 5) _).set (o + 6) _).set (o + 7) _).congr ?_
  intro i _
  simp only [put]
  by_cases h7 : i = o + 7
  · subst h7
    rw [if_pos rfl, if_pos (by omega), show 8 * (8 - 1 - (o + 7 - o)) = 0 by omega, p0, Int.ediv_one]
  rw [if_neg h7]
  by_cases h6 : i = o + 6
  · subst h6
    rw [if_pos rfl, if_pos (by omega), show 8 * (8 - 1 - (o + 6 - o)) = 8 by omega, p8]
  rw [if_neg h6]
  by_cases h5 : i = o + 5
  · subst h5
    rw [if_pos rfl, if_pos (by omega), show 8 * (8 - 1 - (o + 5 - o)) = 16 by omega, p16]
  rw [if_neg h5]
  by_cases h4 : i = o + 4
  · subst h4
    rw [if_pos rfl, if_pos (by omega), show 8 * (8 - 1 - (o + 4 - o)) = 24 by omega, p24]
  rw [if_neg h4]
  by_cases h3 : i = o + 3
  · subst h3
    rw [if_pos rfl, if_pos (by omega), show 8 * (8 - 1 - (o + 3 - o)) = 32 by omega, p32]
  rw [if_neg h3]
  by_cases h2 : i = o + 2
  · subst h2
    rw [if_pos rfl, if_pos (by omega), show 8 * (8 - 1 - (o + 2 - o)) = 40 by omega, p40]
  rw [if_neg h2]
  by_cases h1 : i = o + 1
  · subst h1
    rw [if_pos rfl, if_pos (by omega), show 8 * (8 - 1 - (o + 1 - o)) = 48 by omega, p48]
  rw [if_neg h1]
  by_cases h0 : i = o
  · subst h0
    rw [if_pos rfl, if_pos (by omega), show 8 * (8 - 1 - (i - i)) = 56 by omega, p56]
  · rw [if_neg h0, if_neg (by omega)]

set_option maxHeartbeats 1000000 in
theorem put32 (g t N o n c : Nat) (f : Nat → Value) (v : Int) (w : World) (h0 : 0 ≤ v) (h1 : v ≤ 4294967295) (R : w.rowIs g t N f) (ho : o + 4 ≤ N) (hn : 4 ≤ n) :
    Calls Yba.prog 8 #[.agg #[], .slice (some ⟨g, o, none⟩) n c, .int .u32 v] w fun e w' => e = .returned (.tuple #[]) ∧ w'.rowIs g t N (put f o 4 v) ∧ Kp g w w' := by
  have R1 := R.alloc (.cells #[] 37)
  have c0 := R1.cell (i := o) (by omega)
  have c1 := R1.cell (i := o + 1) (by omega)
  have c2 := R1.cell (i := o + 2) (by omega)
  have c3 := R1.cell (i := o + 3) (by omega)
  have f0 := R1.frozen o
  have f1 := R1.frozen (o + 1)
  have f2 := R1.frozen (o + 2)
  have f3 := R1.frozen (o + 3)
  have i0 : (0 : Int) < (n : Int) := by omega
  have i1 : (1 : Int) < (n : Int) := by omega
  have i2 : (2 : Int) < (n : Int) := by omega
  have i3 : (3 : Int) < (n : Int) := by omega
  go_enter Yba.func8, Yba.ntmps8
  go_wp2
  go_end0
  refine ⟨rfl, put4_of R1 (by omega) rfl rfl rfl, ((((Kp.refl _ _).alloc _).setCell _).setCell _).setCell _ |>.setCell _⟩

set_option maxHeartbeats 2000000 in
theorem put64 (g t N o n c : Nat) (f : Nat → Value) (v : Int) (w : World) (h0 : 0 ≤ v) (h1 : v ≤ 18446744073709551615) (R : w.rowIs g t N f) (ho : o + 8 ≤ N) (hn : 8 ≤ n) :
    Calls Yba.prog 9 #[.agg #[], .slice (some ⟨g, o, none⟩) n c, .int .u64 v] w fun e w' => e = .returned (.tuple #[]) ∧ w'.rowIs g t N (put f o 8 v) ∧ Kp g w w' := by
  have R1 := R.alloc (.cells #[] 37)
  have c0 := R1.cell (i := o) (by omega)
  have c1 := R1.cell (i := o + 1) (by omega)
  have c2 := R1.cell (i := o + 2) (by omega)
  have c3 := R1.cell (i := o + 3) (by omega)
  have c4 := R1.cell (i := o + 4) (by omega)
  have c5 := R1.cell (i := o + 5) (by omega)
  have c6 := R1.cell (i := o + 6) (by omega)
  have c7 := R1.cell (i := o + 7) (by omega)
  have f0 := R1.frozen o
  have f1 := R1.frozen (o + 1)
  have f2 := R1.frozen (o + 2)
  have f3 := R1.frozen (o + 3)
  have f4 := R1.frozen (o + 4)
  have f5 := R1.frozen (o + 5)
  have f6 := R1.frozen (o + 6)
  have f7 := R1.frozen (o + 7)
  have i0 : (0 : Int) < (n : Int) := by omega
  have i1 : (1 : Int) < (n : Int) := by omega
  have i2 : (2 : Int) < (n : Int) := by omega
  have i3 : (3 : Int) < (n : Int) := by omega
  have i4 : (4 : Int) < (n : Int) := by omega
  have i5 : (5 : Int) < (n : Int) := by omega
  have i6 : (6 : Int) < (n : Int) := by omega
  have i7 : (7 : Int) < (n : Int) := by omega
  go_enter Yba.func9, Yba.ntmps9
  go_wp2
  go_end0
  refine ⟨rfl, put8_of R1 (by omega) rfl rfl rfl rfl rfl rfl rfl, ((((((((Kp.refl _ _).alloc _).setCell _).setCell _).setCell _).setCell _).setCell _).setCell _).setCell _ |>.setCell _⟩

end Go.Proofs.Ybulkbhqe
