/- LawS2929AExact (3): the walk. -/
import Derived.Test.YbulkbhqeEnc
import Derived.Test.YbulkbhqePutz
import Derived.Laws.CopyRow
import Derived.Laws.CopyOwn
import Derived.Deep.Cut
namespace Go.Proofs.Ybulkbhqe
open Go.RowKit
set_option linter.unusedVariables false
set_option linter.unusedSimpArgs false

theorem hideR {p : Prop} (h : p) : Hid p := h
theorem info5r : (Yba.prog.info? 5).map (fun i => (i.zero, i.size, i.bytes)) = some (some (.int .u8 0), 1, 1) := by kernel_rfl
theorem infoS5 : (Yba.prog.info? 5).map (·.size) = some 1 := by kernel_rfl

theorem add_off (b o j : Nat) : (Addr.add ⟨b, o, none⟩ j) = ⟨b, o + j, none⟩ := by simp [Addr.add]
theorem kept {B : Nat} {w w' : World} {b i : Nat} {v : Value} (hb : Below B w w') (hlt : b < B) (h : w.cell? ⟨b, i, none⟩ = some v) : w'.cell? ⟨b, i, none⟩ = some v := (hb.cell (p := ⟨b, i, none⟩) hlt).trans h

theorem below_drewN {B : Nat} {w w' : World} (h : Below B w w') (q : Nat) : Below B w (w'.drewN q) := ⟨h.os, h.tape, h.output, h.size, h.block⟩

theorem row_fill {w : World} {b : Nat} {t : TypeId} {n k : Nat} {f : Nat → Value} {z v : Value} (h : w.rowIs b t n (fun j => if j < k then f j else z)) (hv : v = f k) : (w.setCell ⟨b, k, none⟩ v).rowIs b t n (fun j => if j < k + 1 then f j else z) :=
  (h.set k v).congr (fun j _ => by
    by_cases e : j = k
    · subst e; simp [hv]
    · by_cases e2 : j < k
      · simp [e, e2, Nat.lt_succ_of_lt e2]
      · have : ¬ j < k + 1 := by omega
        simp [e, e2, this])

/-- 'copy(b[24:], tail)': its run. -/
theorem run_copy_tail (w : World) (ty : TypeId) (g n sCap tb to : Nat) (t : TypeId) (f0 f : Nat → Value) (h0 : 0 < n) (hrow : w.rowIs g t (24 + n) f0)
    (hcell : ∀ j, j < n → w.cell? ⟨tb, to + j, none⟩ = some (f j)) (h1 : ∀ j, j < n → (f j).oneCell' = true) :
    ∃ w', (Builtin.copy_ #[23, 23] ty #[.slice (some ⟨g, 24, none⟩) n n, .slice (some ⟨tb, to, none⟩) n sCap]).run Yba.prog w = .ok (goInt n) w' ∧ w'.rowIs g t (24 + n) (fun j => if j < 24 then f0 j else f (j - 24)) ∧ w.grownBy w' (some g) := by
  obtain ⟨cur, hg, hc, hf⟩ := hrow
  have hlen : ((List.range n).map f).length = n := by simp
  have hget : ∀ j v, ((List.range n).map f)[j]? = some v → j < n ∧ v = f j := by
    intro j v hv
    rw [List.getElem?_map] at hv
    obtain ⟨i, hi, rfl⟩ := Option.map_eq_some_iff.1 hv
    obtain ⟨hlt, he⟩ := List.getElem?_eq_some_iff.1 hi
    simp at hlt he
    exact ⟨hlt, by rw [he]⟩
  have hrun := run_copy_row (P := Yba.prog) w 23 23 ty 5 g 24 n n ⟨tb, to, none⟩ n sCap cur t ((List.range n).map f) Yba.underlying23 infoS5 hg (by simp) (fun j v hv => by obtain ⟨hj, rfl⟩ := hget j v hv; rw [add_off]; exact hcell j hj) (by rw [hlen]; omega) (fun v hv => by obtain ⟨j, hj, rfl⟩ := List.mem_map.1 hv; exact h1 j (List.mem_range.1 hj))
  have e : (cur.toList.take 24 ++ (List.range n).map f ++ cur.toList.drop (24 + ((List.range n).map f).length)) = cur.toList.take 24 ++ (List.range n).map f := by
    rw [hlen, List.drop_eq_nil_of_le (by simp; omega), List.append_nil]
  rw [e, hlen] at hrun
  have h24 : (cur.toList.take 24).length = 24 := by simp; omega
  refine ⟨_, hrun, ⟨(cur.toList.take 24 ++ (List.range n).map f).toArray, setRow_heap w g _ _ t _ hg, by simp; omega, fun i hi => ?_⟩, ?_⟩
  · by_cases hi2 : i < 24
    · have := hf i hi
      simp only [List.getElem?_toArray, List.getElem?_append, h24, hi2, if_true, List.getElem?_take]
      simpa using this
    · simp only [List.getElem?_toArray, List.getElem?_append, h24, hi2, if_false, List.getElem?_map]
      rw [List.getElem?_range (by omega)]
      rfl
  · exact ⟨rfl, rfl, rfl, by simp [World.setRow], fun k hk hne => setRow_other w g k _ (fun e => hne (by rw [e]))⟩

theorem enc_byte (kind length file record before : Int) (k : Nat) (hk : k < 24) : ∃ y : Int, ∀ f, enc f kind length file record before k = .int .u8 y := by
  unfold enc put
  by_cases h5 : 16 ≤ k
  · exact ⟨_, fun f => by rw [if_pos ⟨h5, by omega⟩]⟩
  by_cases h4 : 12 ≤ k
  · exact ⟨_, fun f => by rw [if_neg (by omega), if_pos ⟨h4, by omega⟩]⟩
  by_cases h3 : 8 ≤ k
  · exact ⟨_, fun f => by rw [if_neg (by omega), if_neg (by omega), if_pos ⟨h3, by omega⟩]⟩
  by_cases h2 : 4 ≤ k
  · exact ⟨_, fun f => by rw [if_neg (by omega), if_neg (by omega), if_neg (by omega), if_pos ⟨h2, by omega⟩]⟩
  · exact ⟨_, fun f => by rw [if_neg (by omega), if_neg (by omega), if_neg (by omega), if_neg (by omega), if_pos ⟨by omega, by omega⟩]⟩

theorem enc_tail (f : Nat → Value) (kind length file record before : Int) (k : Nat) (hk : 24 ≤ k) : enc f kind length file record before k = f k := by
  unfold enc put
  rw [if_neg (by omega), if_neg (by omega), if_neg (by omega), if_neg (by omega), if_neg (by omega)]

theorem putz4x (g t N i c : Nat) (x : Int) (hx : x = (i : Int)) (f : Nat → Value) (v : Int) (w : World) (h0 : 0 ≤ v) (h1 : v ≤ 18446744073709551615) (R : w.rowIs g t N f) (ho : i + 4 ≤ N) (hN : N ≤ 100) :
    Calls Yba.prog 6 #[.slice (some ⟨g, 0, none⟩) N c, .int .i64 x, .int .u64 v, .int .i64 4] w fun e w' => e = .returned (.tuple #[]) ∧ w'.rowIs g t N (put f i 4 v) ∧ Kp g w w' := by
  subst hx; exact putz4 g t N i c f v w h0 h1 R ho hN
theorem putz8x (g t N i c : Nat) (x : Int) (hx : x = (i : Int)) (f : Nat → Value) (v : Int) (w : World) (h0 : 0 ≤ v) (h1 : v ≤ 18446744073709551615) (R : w.rowIs g t N f) (ho : i + 8 ≤ N) (hN : N ≤ 100) :
    Calls Yba.prog 6 #[.slice (some ⟨g, 0, none⟩) N c, .int .i64 x, .int .u64 v, .int .i64 8] w fun e w' => e = .returned (.tuple #[]) ∧ w'.rowIs g t N (put f i 8 v) ∧ Kp g w w' := by
  subst hx; exact putz8 g t N i c f v w h0 h1 R ho hN

def zs24 : Array Value := #[.int .u8 0, .int .u8 0, .int .u8 0, .int .u8 0, .int .u8 0, .int .u8 0, .int .u8 0, .int .u8 0, .int .u8 0, .int .u8 0, .int .u8 0, .int .u8 0, .int .u8 0, .int .u8 0, .int .u8 0, .int .u8 0, .int .u8 0, .int .u8 0, .int .u8 0, .int .u8 0, .int .u8 0, .int .u8 0, .int .u8 0, .int .u8 0]
theorem zs24_all : ∀ i, i < 24 → zs24[i]? = some (.int .u8 0) := by
  intro i hi
  rw [show zs24 = Array.replicate 24 (.int .u8 0) from rfl]
  simp [hi]
theorem zs24_row (w : World) : (w.alloc (.cells zs24 29)).rowIs w.heap.size 29 24 (fun _ => .int .u8 0) := World.rowIs_alloc w zs24 29 _ zs24_all

set_option maxHeartbeats 4000000 in
theorem walk_in (a0 a1 a2 a3 a4 a5 : Int) (a6 : Option Addr) (n c tb to : Nat) (z : Nat → Int) (w : World) (k0 : 0 ≤ a0) (k1 : a0 ≤ 4294967295) (f0 : 0 ≤ a1) (f1 : a1 ≤ 4294967295) (r0 : 0 ≤ a2) (r1 : a2 ≤ 4294967295)
    (hn : n ≤ 1024) (hp : 0 < n → a6 = some ⟨tb, to, none⟩) (hz : ∀ j, j < n → w.cell? ⟨tb, to + j, none⟩ = some (.int .u8 (z j))) :
    Calls Yba.prog 3 #[.int .u32 a0, .int .u32 a1, .int .u32 a2, .int .i64 a3, .int .i64 a4, .int .i64 a5, .slice a6 n c] w fun e w' => e = .returned (.bool true) ∧ Below w.heap.size w w' := by
  obtain ⟨N, hN1, hN2⟩ : ∃ N, 24 + n ≤ N ∧ N ≤ 24 + n := ⟨_, Nat.le_refl _, Nat.le_refl _⟩
  have hNi : (24 : Int) + (n : Int) = (N : Int) := by omega
  have t0 : decide ((1024 : Int) < (n : Int)) = false := by simp; omega
  have hmk := run_make_row' (P := Yba.prog) 23 5 (.int .u8 0) 1 Yba.underlying23 info5r rfl .i64 .i64 N (by omega) (by omega)
  have HM := hideR (World.rowIs_made w (.int .u8 0) N 5)
  have HZ := hideR hz
  go_enter Yba.func3, Yba.ntmps3
  go_wp2
  clear hmk
  go_loopw [30] (fun i wx => ∃ k : Nat, k ≤ N ∧ i = .int .i64 k ∧ Hid (wx.rowIs w.heap.size 5 N (fun j => if j < k then .int .u8 165 else .int .u8 0)) ∧ Below w.heap.size w wx) (fun i _ => N - (intOf i).toNat)
  case atStart => exact ⟨0, by omega, rfl, hideR (HM.out.congr (fun i hi => by simp)), (Below.refl _ _).alloc (Nat.le_refl _) _⟩
  case round =>
    obtain ⟨k, hk, rfl, HR, hb⟩ := hrel
    by_cases hlt : k < N
    · have cc := HR.out.cell hlt
      have ff := HR.out.frozen k
      have h1 : (k : Int) < (N : Int) := by omega
      go_wp2
      go_roundw
      case rel => exact ⟨k + 1, by omega, by go_num, hideR (row_fill HR.out rfl), hb.setCell (Nat.le_refl _) _⟩
      case measure => simp [intOf]; omega
    · obtain ⟨w1, hw1⟩ : ∃ x, x = wr := ⟨_, rfl⟩
      subst hw1
      have e : N = k := by omega
      subst e
      have HRw := hideR (HR.out.congr (g := fun _ => .int .u8 165) (fun i hi => by simp [hi]))
      clear HR HM
      go_upto_region 9 with fail
      go_cut [40] from 37 (fun _ wx => Hid (wx.rowIs w.heap.size 5 N (fun j => if j < 24 then .int .u8 165 else .int .u8 (z (j - 24)))) ∧ Below w.heap.size w wx)
      case first =>
        by_cases hn0 : n = 0
        · subst hn0
          have e2 : N = 24 := by omega
          subst e2
          clear hNi hN1 hN2 hlt hk
          have hrun := run_copy_none (P := Yba.prog) w1 23 23 3 5 (some ⟨w.heap.size, 0, none⟩) a6 0 0 0 c Yba.underlying23 infoS5 rfl
          go_wp2
          go_meet
          exact ⟨hideR (HRw.out.congr (fun i hi => by simp [show i < 24 by omega])), hb⟩
        · have e2 : N = 24 + n := by omega
          subst e2
          obtain rfl := hp (by omega)
          clear hNi hN1 hN2 hlt hk
          obtain ⟨w2, hrun, hr2, hg2⟩ := run_copy_tail w1 3 w.heap.size n c tb to 5 _ (fun j => .int .u8 (z j)) (by omega) HRw.out (fun j hj => kept hb (World.block_lt_of_cell? w _ (HZ.out j hj)) (HZ.out j hj)) (fun _ _ => rfl)
          have HR2 := hideR hr2
          have HB2 : Below w.heap.size w w2 := hb.grown hg2 hb.size (fun k hk => by cases hk; exact Nat.le_refl _)
          clear hr2 hg2
          go_wp2
          go_meet
          exact ⟨HR2, HB2⟩
      case rest =>
        obtain ⟨HR2, hb2⟩ := hcut
        clear HRw hb
        obtain ⟨L, HL, hL0, hL1⟩ : ∃ L, Hid (a3 % 4294967296 = L) ∧ 0 ≤ L ∧ L ≤ 4294967295 := ⟨_, rfl, by omega, by omega⟩
        obtain ⟨U, HU, hU0, hU1⟩ : ∃ U, Hid (a4 % 18446744073709551616 = U) ∧ 0 ≤ U ∧ U ≤ 18446744073709551615 := ⟨_, rfl, by omega, by omega⟩
        have hwL : IntKind.u32.wrap a3 = L := (IntKind.wrap_u32 _).trans HL.out
        have hwU : IntKind.u64.wrap a4 = U := (IntKind.wrap_u64 _).trans HU.out
        have hgl : w.heap.size < wc.heap.size := HR2.out.lt
        have HE := hideR (encode w.heap.size 5 N N _ a5 a1 a2 a4 a0 a3 (wc.alloc (.cells #[.int .i64 a5, .int .u32 a1, .int .u32 a2, .int .i64 a4, .int .u32 a0, .int .i64 a3] 27)) (HR2.out.alloc _) (by omega) (by omega) k0 k1 f0 f1 r0 r1)
        go_upto_region 12 with (go_at_call 5; refine HE.out.mono ?_; rintro e w3 ⟨rfl, R3, K3⟩)
        have HR3 := hideR R3
        have hb3 : Below w.heap.size w w3 := hb2.trans (((Below.refl _ _).alloc (by omega) _).trans (K3.below _ (Nat.le_refl _) (by simp; omega)))
        have hs3 : wc.heap.size < w3.heap.size := by have := K3.size; simp at this; omega
        have HZ0 := hideR (zs24_row w3)
        clear HE HR2 R3 K3 hb2
        go_upto_region 14 with (go_at_call 6; refine (putz4x w3.heap.size 29 24 0 24 _ rfl _ a0 _ k0 (by omega) HZ0.out (by omega) (by omega)).mono ?_; rintro e w4 ⟨rfl, R4, K4⟩)
        have HR4 := hideR R4
        have hb4 : Below w3.heap.size w3 w4 := ((Below.refl _ _).alloc (Nat.le_refl _) _).trans (K4.below _ (Nat.le_refl _) (by simp))
        clear HZ0 R4 K4
        go_upto_region 15 with (go_at_call 6; refine (putz4x w3.heap.size 29 24 4 24 _ rfl _ L _ hL0 (by omega) HR4.out (by omega) (by omega)).mono ?_; rintro e w5 ⟨rfl, R5, K5⟩)
        have HR5 := hideR R5
        have hb5 : Below w3.heap.size w3 w5 := hb4.trans (K5.below _ (Nat.le_refl _) hb4.size)
        clear R5 K5 HR4
        go_upto_region 16 with (go_at_call 6; refine (putz4x w3.heap.size 29 24 8 24 _ rfl _ a1 _ f0 (by omega) HR5.out (by omega) (by omega)).mono ?_; rintro e w6 ⟨rfl, R6, K6⟩)
        have HR6 := hideR R6
        have hb6 : Below w3.heap.size w3 w6 := hb5.trans (K6.below _ (Nat.le_refl _) hb5.size)
        clear R6 K6 HR5 hb4
        go_upto_region 17 with (go_at_call 6; refine (putz4x w3.heap.size 29 24 12 24 _ rfl _ a2 _ r0 (by omega) HR6.out (by omega) (by omega)).mono ?_; rintro e w7 ⟨rfl, R7, K7⟩)
        have HR7 := hideR R7
        have hb7 : Below w3.heap.size w3 w7 := hb6.trans (K7.below _ (Nat.le_refl _) hb6.size)
        clear R7 K7 HR6 hb5
        go_upto_region 18 with (go_at_call 6; refine (putz8x w3.heap.size 29 24 16 24 _ rfl _ U _ hU0 hU1 HR7.out (by omega) (by omega)).mono ?_; rintro e w8 ⟨rfl, R8, K8⟩)
        have hb8 : Below w3.heap.size w3 w8 := hb7.trans (K8.below _ (Nat.le_refl _) hb7.size)
        have HR8 : Hid (w8.rowIs w3.heap.size 29 24 (enc (fun _ => .int .u8 0) a0 a3 a1 a2 a4)) := by
          have := R8
          rw [← HL.out, ← HU.out] at this
          exact hideR this
        have HB8 : Hid (w8.rowIs w.heap.size 5 N (enc (fun j => if j < 24 then .int .u8 165 else .int .u8 (z (j - 24))) a0 a3 a1 a2 a4)) := hideR (HR3.out.of_block (hb8.block _ HR3.out.lt))
        have hbw8 : Below w.heap.size w w8 := hb3.trans (hb8.mono hb3.size)
        have HZ8 : Hid (∀ j, j < n → w8.cell? ⟨tb, to + j, none⟩ = some (.int .u8 (z j))) := hideR (fun j hj => kept hbw8 (World.block_lt_of_cell? w _ (HZ.out j hj)) (HZ.out j hj))
        clear R8 K8 HR7 hb6 hb7 HR3 hwL hwU HL HU HZ hz
        go_upto_region 19 with fail
        go_wp2
        go_loopw [19] (fun i wx => ∃ k : Nat, k ≤ 24 ∧ i = .int .i64 k ∧ Below w8.heap.size w8 wx) (fun i _ => 24 - (intOf i).toNat)
        case atStart => exact ⟨0, by omega, rfl, Below.refl _ _⟩
        case round =>
          obtain ⟨k, hk, rfl, hbx⟩ := hrel
          by_cases hlt : k < 24
          · obtain ⟨y, hy⟩ := enc_byte a0 a3 a1 a2 a4 k hlt
            have cb : wr.cell? ⟨w.heap.size, k, none⟩ = some (.int .u8 y) := kept hbx HB8.out.lt ((HB8.out.cell (by omega)).trans (by rw [hy]))
            have cw : wr.cell? ⟨w3.heap.size, k, none⟩ = some (.int .u8 y) := kept hbx HR8.out.lt ((HR8.out.cell (by omega)).trans (by rw [hy]))
            have i1 : (k : Int) < (N : Int) := by omega
            have i2 : (k : Int) < 24 := by omega
            clear hy
            go_wp2
            go_quiet (fail)
            go_wp2
            go_roundw
            case rel => exact ⟨k + 1, by omega, by go_num, by first | exact hbx | exact hbx.drew | exact below_drewN hbx _⟩
            case measure => simp [intOf]; omega
          · obtain rfl : k = 24 := by omega
            obtain ⟨w9, hw9⟩ : ∃ x, x = wr := ⟨_, rfl⟩
            subst hw9
            go_wp2
            go_loopw [20] (fun i wx => ∃ k : Nat, k ≤ n ∧ i = .int .i64 k ∧ Below w8.heap.size w8 wx) (fun i _ => n - (intOf i).toNat)
            case atStart => exact ⟨0, by omega, rfl, hbx⟩
            case round =>
              obtain ⟨q, hq, rfl, hby⟩ := hrel
              by_cases hlt2 : q < n
              · obtain rfl := hp (by omega)
                have cb : wr.cell? ⟨w.heap.size, 24 + q, none⟩ = some (.int .u8 (z q)) := kept hby HB8.out.lt ((HB8.out.cell (by omega)).trans (by rw [enc_tail _ _ _ _ _ _ _ (by omega)]; simp only [show ¬ (24 + q < 24) by omega, if_false, Nat.add_sub_cancel_left]))
                have cw : wr.cell? ⟨tb, to + q, none⟩ = some (.int .u8 (z q)) := kept hby (World.block_lt_of_cell? w8 _ (HZ8.out q hlt2)) (HZ8.out q hlt2)
                have i1 : (24 : Int) + (q : Int) < (N : Int) := by omega
                have i2 : (q : Int) < (n : Int) := by omega
                go_wp2
                go_quiet (fail)
                go_wp2
                go_roundw
                case rel => (repeat apply Exists.intro); exact ⟨⟨q + 1, by omega, by go_num, below_drewN hby _⟩, rfl⟩
                case measure => simp [intOf]; omega
              · obtain rfl : q = n := by omega
                go_wp2
                go_ret
                exact ⟨rfl, hbw8.trans (hby.mono hbw8.size)⟩
end Go.Proofs.Ybulkbhqe
