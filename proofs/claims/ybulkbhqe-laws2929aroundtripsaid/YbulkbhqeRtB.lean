/- LawS2929ARoundTrip (4): the walk. -/
import Derived.Test.YbulkbhqeEnc
import Derived.Test.YbulkbhqeRtA
import Derived.Test.YbulkbhqeDec
import Derived.Deep.Cut
namespace Go.Proofs.Ybulkbhqe
open Go.RowKit
set_option linter.unusedVariables false
set_option linter.unusedSimpArgs false


def zs24 : Array Value := #[.int .u8 0, .int .u8 0, .int .u8 0, .int .u8 0, .int .u8 0, .int .u8 0, .int .u8 0, .int .u8 0, .int .u8 0, .int .u8 0, .int .u8 0, .int .u8 0, .int .u8 0, .int .u8 0, .int .u8 0, .int .u8 0, .int .u8 0, .int .u8 0, .int .u8 0, .int .u8 0, .int .u8 0, .int .u8 0, .int .u8 0, .int .u8 0]
theorem zs24_all : ∀ i, i < 24 → zs24[i]? = some (.int .u8 0) := by
  intro i hi
  rw [show zs24 = Array.replicate 24 (.int .u8 0) from rfl]
  simp [hi]
theorem zs24_row (w : World) : (w.alloc (.cells zs24 29)).rowIs w.heap.size 29 24 (fun _ => .int .u8 0) := World.rowIs_alloc w zs24 29 _ zs24_all

theorem entry_kept {g : Nat} {w w' : World} {o f r b k l : Int} (K : Kp g ((w.alloc (.cells zs24 29)).alloc (.cells #[.int .i64 o, .int .u32 f, .int .u32 r, .int .i64 b, .int .u32 k, .int .i64 l] 27)).drew w') (hg : g ≠ w.heap.size + 1) :
    w'.cell? ⟨w.heap.size + 1, 0, none⟩ = some (.int .i64 o) ∧ w'.cell? ⟨w.heap.size + 1, 1, none⟩ = some (.int .u32 f) ∧ w'.cell? ⟨w.heap.size + 1, 2, none⟩ = some (.int .u32 r) ∧ w'.cell? ⟨w.heap.size + 1, 3, none⟩ = some (.int .i64 b) ∧ w'.cell? ⟨w.heap.size + 1, 4, none⟩ = some (.int .u32 k) ∧ w'.cell? ⟨w.heap.size + 1, 5, none⟩ = some (.int .i64 l) := by
  have al : ∀ i v, (#[.int .i64 o, .int .u32 f, .int .u32 r, .int .i64 b, .int .u32 k, .int .i64 l] : Array Value)[i]? = some v → ((w.alloc (.cells zs24 29)).alloc (.cells #[.int .i64 o, .int .u32 f, .int .u32 r, .int .i64 b, .int .u32 k, .int .i64 l] 27)).drew.cell? ⟨w.heap.size + 1, i, none⟩ = some v := fun i v h => (World.cell?_alloc_at _ _ _ _ (by simp)).trans h
  have hne : w.heap.size + 1 ≠ g := fun h => hg h.symm
  exact ⟨K.cell (al 0 _ rfl) hne, K.cell (al 1 _ rfl) hne, K.cell (al 2 _ rfl) hne, K.cell (al 3 _ rfl) hne, K.cell (al 4 _ rfl) hne, K.cell (al 5 _ rfl) hne⟩

set_option maxHeartbeats 4000000 in
set_option maxRecDepth 100000 in
theorem rt_walk (a0 a1 a2 a3 a4 a5 a6 a7 : Int) (w : World) (k0 : 0 ≤ a0) (k1 : a0 ≤ 4294967295) (f0 : 0 ≤ a1) (f1 : a1 ≤ 4294967295) (r0 : 0 ≤ a2) (r1 : a2 ≤ 4294967295) (b0 : -9223372036854775808 ≤ a4) (b1 : a4 ≤ 9223372036854775807) (s0 : 0 ≤ a7) (s1 : a7 ≤ 255) :
    Calls Yba.prog 4 #[.int .u32 a0, .int .u32 a1, .int .u32 a2, .int .i64 a3, .int .i64 a4, .int .i64 a5, .int .i64 a6, .int .u8 a7] w fun e w' => e = .returned (.bool true) ∧ Below w.heap.size w w' := by
  have htm : a7.tmod 4 = a7 % 4 := Int.tmod_eq_emod_of_nonneg s0
  obtain ⟨L, HL, hL0, hL1⟩ : ∃ L, Hid (a3 % 4294967296 = L) ∧ 0 ≤ L ∧ L ≤ 4294967295 := ⟨_, rfl, by omega, by omega⟩
  have hwL : IntKind.u32.wrap a3 = L := (IntKind.wrap_u32 _).trans HL.out
  have hwL2 : IntKind.i64.wrap L = L := by rw [IntKind.wrap_i64]; omega
  by_cases m0 : a7 % 4 = 0
  · have u0 : (a7 % 4 == 0) = true := by simpa using m0
    go_enter Yba.func4, Yba.ntmps4
    have HE := hideR (encode w.heap.size 29 24 24 (fun _ => .int .u8 0) a5 a1 a2 a4 1 a3 ((w.alloc (.cells zs24 29)).alloc (.cells #[.int .i64 a5, .int .u32 a1, .int .u32 a2, .int .i64 a4, .int .u32 1, .int .i64 a3] 27)).drew (((zs24_row w).alloc _).drew) (by omega) (by omega) (by omega) (by omega) f0 f1 r0 r1)
    go_upto_region 8 with fail
    go_region_held3 (fun w' => w'.cell? ⟨w.heap.size + 1, 0, none⟩ = some (.int .i64 a5) ∧ w'.cell? ⟨w.heap.size + 1, 1, none⟩ = some (.int .u32 a1) ∧ w'.cell? ⟨w.heap.size + 1, 2, none⟩ = some (.int .u32 a2) ∧ w'.cell? ⟨w.heap.size + 1, 3, none⟩ = some (.int .i64 a4) ∧ w'.cell? ⟨w.heap.size + 1, 4, none⟩ = some (.int .u32 1) ∧ w'.cell? ⟨w.heap.size + 1, 5, none⟩ = some (.int .i64 a3)) (first | go_keep | exact entry_kept K2 (by omega)) ((go_at_call 5; refine HE.out.mono ?_; rintro e w2 ⟨rfl, R2, K2⟩))
    have hb2 : Below w.heap.size w w2 := ((((Below.refl _ w).alloc (Nat.le_refl _) _).alloc (by simp) _).drew).trans (K2.below _ (Nat.le_refl _) (by simp; omega))
    obtain ⟨ok, HOK⟩ : ∃ ok, Hid ((((1 : Int) == 1 && decide (L ≤ 1048576) && decide (0 ≤ a4)) || ((1 : Int) == 2 && (L == 0) && decide (0 ≤ a4))) = ok) := ⟨_, hideR rfl⟩
    have HD := hideR (decode w.heap.size a6 1 L a1 a2 a4 w2 (G0 _ _ _ _ _ _ _ _ _ R2 (by omega) (by omega)) (HL.out ▸ G4 _ _ _ _ _ _ _ _ _ R2) (G8 _ _ _ _ _ _ _ _ _ R2 f0 f1) (G12 _ _ _ _ _ _ _ _ _ R2 r0 r1) (G16 _ _ _ _ _ _ _ _ _ R2) (by omega) (by omega) hL0 hL1 b0 b1)
    have HD2 : Hid (Calls Yba.prog 7 #[.slice (some ⟨w.heap.size, 0, none⟩) 24 24, .int .i64 a6] w2 fun e w' => e = .returned (.tuple #[.agg #[.int .i64 a6, .int .u32 a1, .int .u32 a2, .int .i64 a4, .int .u32 1, .int .i64 L], .bool ok]) ∧ Below w2.heap.size w2 w') := by rw [← HOK.out]; exact HD
    clear R2 K2 HE HD HL
    go_upto_region 10 with (go_at_call 7; refine HD2.out.mono ?_; rintro e w3 ⟨rfl, hb3⟩)
    clear HD2
    by_cases d1 : L ≤ 1048576
    · have t1 : decide (L ≤ 1048576) = true := by simpa using d1
      by_cases d2 : 0 ≤ a4
      · have t2 : decide (0 ≤ a4) = true := by simpa using d2
        obtain rfl : true = ok := by rw [← HOK.out]; simp [d1, d2]
        go_wp2
        go_ret
        exact ⟨rfl, hb2.trans (((hb3.mono hb2.size)).alloc (Nat.le_trans hb2.size hb3.size) _)⟩
      · have t2 : decide (0 ≤ a4) = false := by simpa using d2
        obtain rfl : false = ok := by rw [← HOK.out]; simp [d1, d2]
        go_wp2
        go_ret
        exact ⟨rfl, hb2.trans (((hb3.mono hb2.size)).alloc (Nat.le_trans hb2.size hb3.size) _)⟩
    · have t1 : decide (L ≤ 1048576) = false := by simpa using d1
      obtain rfl : false = ok := by rw [← HOK.out]; simp [d1]
      go_wp2
      go_ret
      exact ⟨rfl, hb2.trans (((hb3.mono hb2.size)).alloc (Nat.le_trans hb2.size hb3.size) _)⟩
  · have u0 : (a7 % 4 == 0) = false := by simpa using m0
    by_cases m1 : a7 % 4 = 1
    · have u1 : (a7 % 4 == 1) = true := by simpa using m1
      go_enter Yba.func4, Yba.ntmps4
      have HE := hideR (encode w.heap.size 29 24 24 (fun _ => .int .u8 0) a5 a1 a2 a4 2 a3 ((w.alloc (.cells zs24 29)).alloc (.cells #[.int .i64 a5, .int .u32 a1, .int .u32 a2, .int .i64 a4, .int .u32 2, .int .i64 a3] 27)).drew (((zs24_row w).alloc _).drew) (by omega) (by omega) (by omega) (by omega) f0 f1 r0 r1)
      go_upto_region 8 with fail
      go_region_held3 (fun w' => w'.cell? ⟨w.heap.size + 1, 0, none⟩ = some (.int .i64 a5) ∧ w'.cell? ⟨w.heap.size + 1, 1, none⟩ = some (.int .u32 a1) ∧ w'.cell? ⟨w.heap.size + 1, 2, none⟩ = some (.int .u32 a2) ∧ w'.cell? ⟨w.heap.size + 1, 3, none⟩ = some (.int .i64 a4) ∧ w'.cell? ⟨w.heap.size + 1, 4, none⟩ = some (.int .u32 2) ∧ w'.cell? ⟨w.heap.size + 1, 5, none⟩ = some (.int .i64 a3)) (first | go_keep | exact entry_kept K2 (by omega)) ((go_at_call 5; refine HE.out.mono ?_; rintro e w2 ⟨rfl, R2, K2⟩))
      have hb2 : Below w.heap.size w w2 := ((((Below.refl _ w).alloc (Nat.le_refl _) _).alloc (by simp) _).drew).trans (K2.below _ (Nat.le_refl _) (by simp; omega))
      obtain ⟨ok, HOK⟩ : ∃ ok, Hid ((((2 : Int) == 1 && decide (L ≤ 1048576) && decide (0 ≤ a4)) || ((2 : Int) == 2 && (L == 0) && decide (0 ≤ a4))) = ok) := ⟨_, hideR rfl⟩
      have HD := hideR (decode w.heap.size a6 2 L a1 a2 a4 w2 (G0 _ _ _ _ _ _ _ _ _ R2 (by omega) (by omega)) (HL.out ▸ G4 _ _ _ _ _ _ _ _ _ R2) (G8 _ _ _ _ _ _ _ _ _ R2 f0 f1) (G12 _ _ _ _ _ _ _ _ _ R2 r0 r1) (G16 _ _ _ _ _ _ _ _ _ R2) (by omega) (by omega) hL0 hL1 b0 b1)
      have HD2 : Hid (Calls Yba.prog 7 #[.slice (some ⟨w.heap.size, 0, none⟩) 24 24, .int .i64 a6] w2 fun e w' => e = .returned (.tuple #[.agg #[.int .i64 a6, .int .u32 a1, .int .u32 a2, .int .i64 a4, .int .u32 2, .int .i64 L], .bool ok]) ∧ Below w2.heap.size w2 w') := by rw [← HOK.out]; exact HD
      clear R2 K2 HE HD HL
      go_upto_region 10 with (go_at_call 7; refine HD2.out.mono ?_; rintro e w3 ⟨rfl, hb3⟩)
      clear HD2
      by_cases d1 : L = 0
      · subst d1
        by_cases d2 : 0 ≤ a4
        · have t2 : decide (0 ≤ a4) = true := by simpa using d2
          obtain rfl : true = ok := by rw [← HOK.out]; simp [d2]
          go_wp2
          go_ret
          exact ⟨rfl, hb2.trans (((hb3.mono hb2.size)).alloc (Nat.le_trans hb2.size hb3.size) _)⟩
        · have t2 : decide (0 ≤ a4) = false := by simpa using d2
          obtain rfl : false = ok := by rw [← HOK.out]; simp [d2]
          go_wp2
          go_ret
          exact ⟨rfl, hb2.trans (((hb3.mono hb2.size)).alloc (Nat.le_trans hb2.size hb3.size) _)⟩
      · have t1 : (L == 0) = false := by simpa using d1
        obtain rfl : false = ok := by rw [← HOK.out]; simp [d1]
        go_wp2
        go_ret
        exact ⟨rfl, hb2.trans (((hb3.mono hb2.size)).alloc (Nat.le_trans hb2.size hb3.size) _)⟩
    · have u1 : (a7 % 4 == 1) = false := by simpa using m1
      go_enter Yba.func4, Yba.ntmps4
      have HE := hideR (encode w.heap.size 29 24 24 (fun _ => .int .u8 0) a5 a1 a2 a4 a0 a3 ((w.alloc (.cells zs24 29)).alloc (.cells #[.int .i64 a5, .int .u32 a1, .int .u32 a2, .int .i64 a4, .int .u32 a0, .int .i64 a3] 27)).drew (((zs24_row w).alloc _).drew) (by omega) (by omega) k0 k1 f0 f1 r0 r1)
      go_upto_region 8 with fail
      go_region_held3 (fun w' => w'.cell? ⟨w.heap.size + 1, 0, none⟩ = some (.int .i64 a5) ∧ w'.cell? ⟨w.heap.size + 1, 1, none⟩ = some (.int .u32 a1) ∧ w'.cell? ⟨w.heap.size + 1, 2, none⟩ = some (.int .u32 a2) ∧ w'.cell? ⟨w.heap.size + 1, 3, none⟩ = some (.int .i64 a4) ∧ w'.cell? ⟨w.heap.size + 1, 4, none⟩ = some (.int .u32 a0) ∧ w'.cell? ⟨w.heap.size + 1, 5, none⟩ = some (.int .i64 a3)) (first | go_keep | exact entry_kept K2 (by omega)) ((go_at_call 5; refine HE.out.mono ?_; rintro e w2 ⟨rfl, R2, K2⟩))
      have hb2 : Below w.heap.size w w2 := ((((Below.refl _ w).alloc (Nat.le_refl _) _).alloc (by simp) _).drew).trans (K2.below _ (Nat.le_refl _) (by simp; omega))
      obtain ⟨ok, HOK⟩ : ∃ ok, Hid ((((a0 : Int) == 1 && decide (L ≤ 1048576) && decide (0 ≤ a4)) || ((a0 : Int) == 2 && (L == 0) && decide (0 ≤ a4))) = ok) := ⟨_, hideR rfl⟩
      have HD := hideR (decode w.heap.size a6 a0 L a1 a2 a4 w2 (G0 _ _ _ _ _ _ _ _ _ R2 k0 k1) (HL.out ▸ G4 _ _ _ _ _ _ _ _ _ R2) (G8 _ _ _ _ _ _ _ _ _ R2 f0 f1) (G12 _ _ _ _ _ _ _ _ _ R2 r0 r1) (G16 _ _ _ _ _ _ _ _ _ R2) k0 k1 hL0 hL1 b0 b1)
      have HD2 : Hid (Calls Yba.prog 7 #[.slice (some ⟨w.heap.size, 0, none⟩) 24 24, .int .i64 a6] w2 fun e w' => e = .returned (.tuple #[.agg #[.int .i64 a6, .int .u32 a1, .int .u32 a2, .int .i64 a4, .int .u32 a0, .int .i64 L], .bool ok]) ∧ Below w2.heap.size w2 w') := by rw [← HOK.out]; exact HD
      clear R2 K2 HE HD HL
      go_upto_region 10 with (go_at_call 7; refine HD2.out.mono ?_; rintro e w3 ⟨rfl, hb3⟩)
      clear HD2
      by_cases c1 : a0 = 1
      · subst c1
        by_cases d1 : L ≤ 1048576
        · have t1 : decide (L ≤ 1048576) = true := by simpa using d1
          by_cases d2 : 0 ≤ a4
          · have t2 : decide (0 ≤ a4) = true := by simpa using d2
            obtain rfl : true = ok := by rw [← HOK.out]; simp [d1, d2]
            go_wp2
            go_ret
            exact ⟨rfl, hb2.trans (((hb3.mono hb2.size)).alloc (Nat.le_trans hb2.size hb3.size) _)⟩
          · have t2 : decide (0 ≤ a4) = false := by simpa using d2
            obtain rfl : false = ok := by rw [← HOK.out]; simp [d1, d2]
            go_wp2
            go_ret
            exact ⟨rfl, hb2.trans (((hb3.mono hb2.size)).alloc (Nat.le_trans hb2.size hb3.size) _)⟩
        · have t1 : decide (L ≤ 1048576) = false := by simpa using d1
          obtain rfl : false = ok := by rw [← HOK.out]; simp [d1]
          go_wp2
          go_ret
          exact ⟨rfl, hb2.trans (((hb3.mono hb2.size)).alloc (Nat.le_trans hb2.size hb3.size) _)⟩
      · by_cases c2 : a0 = 2
        · subst c2
          by_cases d1 : L = 0
          · subst d1
            by_cases d2 : 0 ≤ a4
            · have t2 : decide (0 ≤ a4) = true := by simpa using d2
              obtain rfl : true = ok := by rw [← HOK.out]; simp [d2]
              go_wp2
              go_ret
              exact ⟨rfl, hb2.trans (((hb3.mono hb2.size)).alloc (Nat.le_trans hb2.size hb3.size) _)⟩
            · have t2 : decide (0 ≤ a4) = false := by simpa using d2
              obtain rfl : false = ok := by rw [← HOK.out]; simp [d2]
              go_wp2
              go_ret
              exact ⟨rfl, hb2.trans (((hb3.mono hb2.size)).alloc (Nat.le_trans hb2.size hb3.size) _)⟩
          · have t1 : (L == 0) = false := by simpa using d1
            obtain rfl : false = ok := by rw [← HOK.out]; simp [d1]
            go_wp2
            go_ret
            exact ⟨rfl, hb2.trans (((hb3.mono hb2.size)).alloc (Nat.le_trans hb2.size hb3.size) _)⟩
        · have t1 : (a0 == 1) = false := by simpa using c1
          have t2 : (a0 == 2) = false := by simpa using c2
          obtain rfl : false = ok := by rw [← HOK.out, t1, t2]; rfl
          go_wp2
          go_ret
          exact ⟨rfl, hb2.trans (((hb3.mono hb2.size)).alloc (Nat.le_trans hb2.size hb3.size) _)⟩
end Go.Proofs.Ybulkbhqe
