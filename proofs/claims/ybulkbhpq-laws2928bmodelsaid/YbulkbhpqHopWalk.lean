/- The walk of serialis.hopelessWrites (function 5). -/
import Derived.Test.YbulkbhpqProg
import Derived.Test.YbulkbhpqHop
import Derived.WalkKit
import Derived.Outline
namespace Go.Proofs.Ybulkbhpq
open Go.RowKit

theorem hide {p : Prop} (h : p) : Hid p := h
theorem unhide {p : Prop} (h : Hid p) : p := h

theorem info3 : (Yba.prog.info? 3).map (fun i => (i.zero, i.size, i.bytes)) = some (some (.int .i64 0), 1, 8) := by kernel_rfl

theorem below_app {B : Nat} {w wr w1 : World} {o1 o2 : Obj} {v : Value} {n : Nat} {xs : List Value} {e : TypeId} {size : Nat} (hb : Below B w wr) (hB : B ≤ wr.heap.size) (hown : wr.ownsRow B e size v n xs)
    (hg : ((wr.alloc o1).alloc o2).grownBy w1 v.ownBlock) : Below B w w1 :=
  ((hb.alloc hB o1).alloc (by simp; omega) o2).grown hg (by simp; omega) (fun k hk => (hown.lt k hk).1)

set_option maxHeartbeats 1000000 in
set_option maxRecDepth 10000 in
theorem hopeless_any (g n c : Nat) (T A R : Nat → Int) (w : World) (hn : n ≤ 1024) (hg : g < w.heap.size)
    (hT : ∀ i, i < n → w.cell? ⟨g, i * 3, none⟩ = some (.int .i64 (T i)))
    (hA : ∀ i, i < n → w.cell? ⟨g, i * 3 + 1, none⟩ = some (.int .i64 (A i)))
    (hR : ∀ i, i < n → w.cell? ⟨g, i * 3 + 2, none⟩ = some (.int .i64 (R i))) :
    Calls Yba.prog 5 #[.slice (some ⟨g, 0, none⟩) n c] w fun e w' => ∃ v, e = .returned v ∧
      w'.ownsRow w.heap.size 3 1 v (Hop.hop A (Hop.lat R n) n).length ((Hop.hop A (Hop.lat R n) n).map (Value.int .i64)) ∧
      (Hop.hop A (Hop.lat R n) n = [] → v = .slice none 0 0) ∧ Below w.heap.size w w' := by
  go_enter Yba.func5, Yba.ntmps5
  go_wp2
  go_loopw [3, 11] (fun l i wr => ∃ k : Nat, k ≤ n ∧ i = .int .i64 k ∧ l = .int .i64 (Hop.lat R k) ∧ Below w.heap.size w wr) (fun _ i _ => n - (intOf i).toNat)
  case atStart => exact ⟨0, Nat.zero_le _, rfl, rfl, Below.refl _ _⟩
  case round =>
    obtain ⟨k, hk, rfl, rfl, hb⟩ := hrel
    by_cases hlt : k < n
    · have cT := (hb.cell (p := ⟨g, k * 3, none⟩) hg).trans (hT k hlt)
      have cA := (hb.cell (p := ⟨g, k * 3 + 1, none⟩) hg).trans (hA k hlt)
      have cR := (hb.cell (p := ⟨g, k * 3 + 2, none⟩) hg).trans (hR k hlt)
      go_wp2
      go_roundw
      case rel => exact ⟨k + 1, by omega, by go_num, congrArg (Value.int .i64) (Hop.lat_if R k), hb.alloc hb.size _⟩
      case measure => simp [intOf]; omega
    · have hkn : k = n := by omega
      subst hkn
      go_wp2
      obtain ⟨i0, hi, hz0, hz1, hz2⟩ := info_parts info3
      generalize hL : Hop.lat R k = L at *
      have HL : Hid (Hop.lat R k = L) := hL
      clear hL
      go_loopw [6, 22] (fun v i ws => ∃ j : Nat, j ≤ k ∧ i = .int .i64 j ∧ ws.ownsRow w.heap.size 3 1 v (Hop.hop A L j).length ((Hop.hop A L j).map (Value.int .i64)) ∧
          Hid (Hop.hop A L j = [] → v = .slice none 0 0) ∧ Below w.heap.size w ws) (fun _ i _ => k - (intOf i).toNat)
      case atStart => exact ⟨0, Nat.zero_le _, rfl, World.ownsRow_nil _ _ _ _, fun _ => rfl, hb⟩
      case round =>
        obtain ⟨j, hj, rfl, hown, hnil, hbj⟩ := hrel
        by_cases hlt : j < k
        · have cT := (hbj.cell (p := ⟨g, j * 3, none⟩) hg).trans (hT j hlt)
          have cA := (hbj.cell (p := ⟨g, j * 3 + 1, none⟩) hg).trans (hA j hlt)
          have cR := (hbj.cell (p := ⟨g, j * 3 + 2, none⟩) hg).trans (hR j hlt)
          have hlen := Hop.hop_len A L j
          by_cases hit : L < A j
          · go_wp2_with (first
              | (at_builtin; refine wpList_append_own _ rfl _ _ 28 rfl w.heap.size 3 i0 (.int .i64 0) 1 8 Yba.underlying28 hi hz0 hz1 hz2 rfl (by decide) _ _ _ rfl ((hown.alloc _).alloc _) ⟨wr.heap.size + 1, 0, none⟩ 1 1 [.int .i64 (j : Int)] rfl rfl ?c1 ?c2 ?c3 ?c4 ?c5 ?_)
              | go_in)
            case c1 =>
              intro t u hu
              match t, hu with
              | 0, hu => simp at hu; subst hu; simp [Addr.add]
            case c2 => intro u hu; simp at hu; subst hu; rfl
            case c3 => unfold maxLen; omega
            case c4 => omega
            case c5 => have := hbj.size; simp; omega
            · intro v' w1 hown' hgrow hne
              have hb1 := below_app hbj hbj.size hown hgrow
              have HH : Hid (Hop.hop A L (j + 1) = Hop.hop A L j ++ [(j : Int)]) := Hop.hop_hit A L j hit
              clear hgrow hown hbj cT cA cR hnil hne
              go_wp2
              go_roundw
              case rel => exact ⟨j + 1, by omega, by go_num, by rw [HH.out]; simpa using hown', fun h => absurd h (by rw [HH.out]; simp), hb1⟩
              case measure => simp [intOf]; omega
          · have HH : Hid (Hop.hop A L (j + 1) = Hop.hop A L j) := Hop.hop_miss A L j hit
            go_wp2
            go_roundw
            case rel => exact ⟨j + 1, by omega, by go_num, by rw [HH.out]; exact hown.alloc _, by rw [HH.out]; exact hnil, hbj.alloc hbj.size _⟩
            case measure => simp [intOf]; omega
        · have hjk : j = k := by omega
          subst hjk
          go_wp2
          go_ret
          have e := HL.out
          subst e
          exact ⟨_, rfl, hown, hnil.out, hbj⟩

/-- .. of no writer, nil or not: it reads nothing, and hands back nil. -/
theorem hopeless_none (ao : Option Addr) (c : Nat) (w : World) :
    Calls Yba.prog 5 #[.slice ao 0 c] w fun e w' => e = .returned (.slice none 0 0) ∧ w' = w := by
  go_enter Yba.func5, Yba.ntmps5
  go_wp2
  refine wp_loop_rounds 1 ?_
  rw [rounds_succ]
  go_wp2
  refine wp_loop_rounds 1 ?_
  rw [rounds_succ]
  go_wp2
  go_ret
  exact ⟨rfl, rfl⟩
end Go.Proofs.Ybulkbhpq
