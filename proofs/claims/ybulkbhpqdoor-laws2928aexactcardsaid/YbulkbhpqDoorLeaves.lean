/- The small functions on the road of LawS2928AExact: zzs2928aafter (6), the closures (10, 24), slices.IndexFunc (9), slices.BinarySearchFunc (23), writeAfter (11). -/
import Derived.Test.YbulkbhpqDoorProg
import Derived.Test.YbulkbhpqDoorPlain
import Derived.WalkKit
import Derived.WalkSpells
import Derived.WalkSmall
import Derived.BigRegion
import Derived.Deep.RegionWith
import Derived.Deep.RegionHeld3
import Derived.Deep.QuietTactic
import Derived.Deep.OwnRows
import Derived.BigQuiet
namespace Go.Proofs.YbulkbhpqDoor
open Go.RowKit Plain
set_option linter.unusedVariables false
set_option linter.unusedSimpArgs false

theorem hideR {p : Prop} (h : p) : Hid p := h
theorem kept {w w' : World} (hb : Below w.heap.size w w') {b i : Nat} {v : Value} (h : w.cell? ⟨b, i, none⟩ = some v) : w'.cell? ⟨b, i, none⟩ = some v :=
  (hb.cell (p := ⟨b, i, none⟩) (World.block_lt_of_cell? w _ h)).trans h

set_option maxHeartbeats 2000000 in
/-- zzs2928aafter: the least that is not below. -/
theorem zzs_any (a : Option Addr) (n c b o : Nat) (z : Nat → Nat) (at' : Int) (w : World) (hn : n ≤ 1024) (hp : 0 < n → a = some ⟨b, o, none⟩) (hz : ∀ j, j < n → w.cell? ⟨b, o + j, none⟩ = some (.int .u8 (z j : Int))) (hz2 : ∀ j, j < n → z j ≤ 255) :
    Calls Ybad.prog 6 #[.slice a n c, .int .i64 at'] w fun e w' => e = .returned (.int .i64 (bestTo z at' n)) ∧ w' = w := by
  have HZ := hideR hz
  have HZ2 := hideR hz2
  clear hz hz2
  go_enter Ybad.func6, Ybad.ntmps6
  go_wp2
  go_loopw [5, 10] (fun v i wx => ∃ k : Nat, k ≤ n ∧ i = .int .i64 k ∧ v = .int .i64 (bestTo z at' k) ∧ wx = w) (fun _ i _ => n - (intOf i).toNat)
  case atStart => exact ⟨0, by omega, rfl, rfl, rfl⟩
  case round =>
    obtain ⟨k, hk, rfl, rfl, rfl⟩ := hrel
    by_cases hlt : k < n
    · obtain rfl := hp (by omega)
      have cc := HZ.out k hlt
      have hz2 := HZ2.out k hlt
      have i1 : (k : Int) < (n : Int) := by omega
      by_cases t1 : at' ≤ (z k : Int)
      · by_cases t2 : (z k : Int) < bestTo z at' k
        · have HB := hideR (show bestTo z at' (k + 1) = (z k : Int) by rw [bestTo, if_pos ⟨t1, t2⟩])
          go_wp2
          go_roundw
          case rel => exact ⟨k + 1, by omega, by go_num, by rw [HB.out], trivial⟩
          case measure => simp [intOf]; omega
        · have HB := hideR (show bestTo z at' (k + 1) = bestTo z at' k by rw [bestTo, if_neg (fun h => t2 h.2)])
          go_wp2
          go_roundw
          case rel => exact ⟨k + 1, by omega, by go_num, by rw [HB.out], trivial⟩
          case measure => simp [intOf]; omega
      · have HB := hideR (show bestTo z at' (k + 1) = bestTo z at' k by rw [bestTo, if_neg (fun h => t1 h.1)])
        have t1' : decide (at' ≤ (z k : Int)) = false := by simpa using t1
        go_wp2
        go_roundw
        case rel => exact ⟨k + 1, by omega, by go_num, by rw [HB.out], trivial⟩
        case measure => simp [intOf]; omega
    · obtain rfl : k = n := by omega
      go_wp2
      go_ret
      exact ⟨rfl, rfl⟩

/-- after's closure: is it the item? -/
theorem same_item (bx : Nat) (x y at' : Int) (fin : Bool) (w : World) (hc : w.cell? ⟨bx, 0, none⟩ = some (.int .i64 x)) :
    Calls Ybad.prog 10 #[.agg #[.int .i64 y, .int .i64 at', .bool fin], .pointer (some ⟨bx, 0, none⟩)] w fun e w' => e = .returned (.bool (y == x)) ∧ Below w.heap.size w w' := by
  have h1 : ∀ o, (w.alloc o).cell? ⟨bx, 0, none⟩ = some (.int .i64 x) := fun o => kept ((Below.refl _ w).alloc (Nat.le_refl _) o) hc
  go_enter Ybad.func10, Ybad.ntmps10
  go_wp2
  go_ret
  exact ⟨rfl, (Below.refl _ w).alloc (Nat.le_refl _) _⟩

/-- writeAfter's closure: the distance. -/
theorem dist (t y r at' : Int) (w : World) (h0 : 0 ≤ y) (h1 : y ≤ 255) (h2 : -40000 ≤ at') (h3 : at' ≤ 40000) :
    Calls Ybad.prog 24 #[.agg #[.int .i64 t, .int .i64 y, .int .i64 r], .int .i64 at'] w fun e w' => e = .returned (.int .i64 (y - at')) ∧ Below w.heap.size w w' := by
  go_enter Ybad.func24, Ybad.ntmps24
  go_wp2
  go_ret
  exact ⟨rfl, (Below.refl _ w).alloc (Nat.le_refl _) _⟩

/-- what IndexFunc hands back: the first place that bears the item, -1 where none does -/
def FirstAt (it : Nat → Int) (x : Int) (n : Nat) (r : Int) : Prop :=
  (∃ i : Nat, i < n ∧ r = (i : Int) ∧ it i = x ∧ ∀ j, j < i → it j ≠ x) ∨ (r = -1 ∧ ∀ j, j < n → it j ≠ x)

set_option maxHeartbeats 2000000 in
theorem index_any (a : Option Addr) (n c nb bx : Nat) (it at' : Nat → Int) (fin : Nat → Bool) (x : Int) (w : World) (hn : n ≤ 10000000) (hp : 0 < n → a = some ⟨nb, 0, none⟩)
    (c0 : ∀ k, k < n → w.cell? ⟨nb, k * 3, none⟩ = some (.int .i64 (it k))) (c1 : ∀ k, k < n → w.cell? ⟨nb, k * 3 + 1, none⟩ = some (.int .i64 (at' k))) (c2 : ∀ k, k < n → w.cell? ⟨nb, k * 3 + 2, none⟩ = some (.bool (fin k)))
    (hx : w.cell? ⟨bx, 0, none⟩ = some (.int .i64 x)) :
    Calls Ybad.prog 9 #[.slice a n c, .func (.func 10) #[] #[.pointer (some ⟨bx, 0, none⟩)]] w fun e w' => ∃ r : Int, e = .returned (.int .i64 r) ∧ FirstAt it x n r ∧ Below w.heap.size w w' := by
  have H0 := hideR c0
  have H1 := hideR c1
  have H2 := hideR c2
  have HX := hideR hx
  clear c0 c1 c2 hx
  go_enter Ybad.func9, Ybad.ntmps9
  go_wp2
  go_loopw [8] (fun i wx => ∃ k : Nat, k ≤ n ∧ i = .int .i64 k ∧ Hid (∀ j, j < k → it j ≠ x) ∧ Below w.heap.size w wx) (fun i _ => n - (intOf i).toNat)
  case atStart => exact ⟨0, by omega, rfl, hideR (fun j hj => absurd hj (Nat.not_lt_zero _)), Below.refl _ _⟩
  case round =>
    obtain ⟨k, hk, rfl, HN, hb⟩ := hrel
    by_cases hlt : k < n
    · obtain rfl := hp (by omega)
      have d0 := kept hb (H0.out k hlt)
      have d1 := kept hb (H1.out k hlt)
      have d2 := kept hb (H2.out k hlt)
      have HXk := hideR (kept hb HX.out)
      have i1 : (k : Int) < (n : Int) := by omega
      by_cases he : it k = x
      · have HE := hideR he
        go_wp2_with (go_at_call 10; refine (same_item bx x _ _ _ _ HXk.out).mono ?_; rintro e w1 ⟨rfl, hb1⟩)
        go_ret
        exact ⟨_, rfl, .inl ⟨k, hlt, rfl, he, HN.out⟩, hb.trans (hb1.mono hb.size)⟩
      · have te : (it k == x) = false := by simpa using he
        go_wp2_with (go_at_call 10; refine (same_item bx x (it k) (at' k) (fin k) _ HXk.out).mono ?_; rintro e w1 ⟨rfl, hb1⟩)
        go_roundw
        case rel => exact ⟨k + 1, by omega, by go_num, hideR (fun j hj => by
          by_cases e : j = k
          · rw [e]; exact he
          · exact HN.out j (by omega)), hb.trans (hb1.mono hb.size)⟩
        case measure => simp [intOf]; omega
    · obtain rfl : k = n := by omega
      go_wp2
      go_ret
      exact ⟨_, rfl, .inr ⟨rfl, HN.out⟩, hb⟩
end Go.Proofs.YbulkbhpqDoor
