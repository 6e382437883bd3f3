/- The walk of serialis.LawS2928BModel (function 3). -/
import Derived.Test.YbulkbhpqProg
import Derived.Test.YbulkbhpqHop
import Derived.Test.YbulkbhpqHopWalk
import Derived.WalkKit
import Derived.WalkSpells
import Derived.WalkSmall
import Derived.Maps.AppendAt
import Derived.BigRegion
import Derived.Deep.QuietTactic
import Derived.BigQuiet
import Derived.Outline
namespace Go.Proofs.Ybulkbhpq
open Go.RowKit

theorem info27 : (Yba.prog.info? 27).map (fun i => (i.zero, i.size, i.bytes)) = some (some (.agg #[.int .i64 0, .int .i64 0, .int .i64 0]), 3, 24) := by kernel_rfl

def Filled (T A R : Nat → Int) (k : Nat) (xs : List Value) : Prop :=
  ∀ i, i < k → xs[i * 3]? = some (.int .i64 (T i)) ∧ xs[i * 3 + 1]? = some (.int .i64 (A i)) ∧ xs[i * 3 + 2]? = some (.int .i64 (R i))

theorem get3 {xs : List Value} {k : Nat} {a b c : Value} : ∀ j, ((((xs.set (k * 3) a).set (k * 3 + 1) b).set (k * 3 + 2) c)[j]?) = if j < xs.length then (if j = k * 3 + 2 then some c else if j = k * 3 + 1 then some b else if j = k * 3 then some a else xs[j]?) else none := by
  intro j
  by_cases hj : j < xs.length
  · rw [if_pos hj]
    simp only [List.getElem?_set, List.length_set]
    by_cases h2 : j = k * 3 + 2
    · subst h2; simp [hj]
    · rw [if_neg (Ne.symm h2), if_neg h2]
      by_cases h1 : j = k * 3 + 1
      · subst h1; simp [hj]
      · rw [if_neg (Ne.symm h1), if_neg h1]
        by_cases h0 : j = k * 3
        · subst h0; simp [hj]
        · rw [if_neg (Ne.symm h0), if_neg h0]
  · rw [if_neg hj]
    exact List.getElem?_eq_none (by simpa using hj)

theorem fill_step {T A R : Nat → Int} {n k : Nat} {xs : List Value} (hl : xs.length = n * 3) (hk : k < n) (h : Filled T A R k xs) :
    Filled T A R (k + 1) (((xs.set (k * 3) (.int .i64 (T k))).set (k * 3 + 1) (.int .i64 (A k))).set (k * 3 + 2) (.int .i64 (R k))) := by
  intro i hi
  rw [get3, get3, get3]
  by_cases e : i = k
  · subst e
    refine ⟨?_, ?_, ?_⟩
    · rw [if_pos (by omega), if_neg (by omega), if_neg (by omega), if_pos rfl]
    · rw [if_pos (by omega), if_neg (by omega), if_pos rfl]
    · rw [if_pos (by omega), if_pos rfl]
  · obtain ⟨h0, h1, h2⟩ := h i (by omega)
    refine ⟨?_, ?_, ?_⟩
    · rw [if_pos (by omega), if_neg (by omega), if_neg (by omega), if_neg (by omega)]; exact h0
    · rw [if_pos (by omega), if_neg (by omega), if_neg (by omega), if_neg (by omega)]; exact h1
    · rw [if_pos (by omega), if_neg (by omega), if_neg (by omega), if_neg (by omega)]; exact h2

theorem row_step {T A R : Nat → Int} {w wr : World} {n k : Nat} {xs : List Value} (hk : k < n) (hown : wr.ownsRow w.heap.size 27 3 (.slice (some ⟨w.heap.size, 0, none⟩) n n) n xs) (hfill : Filled T A R k xs) (hb : Below w.heap.size w wr) :
    ∃ ys, (((wr.setCell ⟨w.heap.size, k * 3, none⟩ (.int .i64 (T k))).setCell ⟨w.heap.size, k * 3 + 1, none⟩ (.int .i64 (A k))).setCell ⟨w.heap.size, k * 3 + 2, none⟩ (.int .i64 (R k))).drew.ownsRow w.heap.size 27 3 (.slice (some ⟨w.heap.size, 0, none⟩) n n) n ys ∧ Filled T A R (k + 1) ys ∧
      Below w.heap.size w (((wr.setCell ⟨w.heap.size, k * 3, none⟩ (.int .i64 (T k))).setCell ⟨w.heap.size, k * 3 + 1, none⟩ (.int .i64 (A k))).setCell ⟨w.heap.size, k * 3 + 2, none⟩ (.int .i64 (R k))).drew :=
  ⟨_, (((hown.stored _ _).1.stored _ _).1.stored _ _).1.drew, fill_step hown.1 hk hfill, (((hb.setCell (Nat.le_refl _) _).setCell (Nat.le_refl _) _).setCell (Nat.le_refl _) _).drew⟩

/-- the row's shape, where it owns H -/
theorem row_shape {w : World} {base : Nat} {v : Value} {H : List Int} (h : w.ownsRow base 3 1 v H.length (H.map (Value.int .i64))) (hne : H ≠ []) :
    ∃ g c, v = .slice (some ⟨g, 0, none⟩) H.length c ∧ g < w.heap.size ∧ ∀ j, j < H.length → w.cell? ⟨g, j, none⟩ = some (.int .i64 (H.getD j 0)) := by
  rcases h.2 with ⟨_, hz⟩ | ⟨g, cap, cur, hv, _, hh, _⟩
  · exact absurd (List.length_eq_zero_iff.1 hz) hne
  · subst hv
    refine ⟨g, cap, rfl, (Array.getElem?_eq_some_iff.1 hh).1, fun j hj => ?_⟩
    rw [h.cellAt j (by omega), List.getElem?_map, List.getElem?_eq_getElem hj]
    simp [List.getD, List.getElem?_eq_getElem hj]

theorem below_app1 {B : Nat} {w wr w1 : World} {o2 : Obj} {v : Value} {n : Nat} {xs : List Value} {e : TypeId} {size : Nat} (hb : Below B w wr) (hB : B ≤ wr.heap.size) (hown : wr.ownsRow B e size v n xs)
    (hg : (wr.alloc o2).grownBy w1 v.ownBlock) : Below B w w1 :=
  (hb.alloc hB o2).grown hg (by simp; omega) (fun k hk => (hown.lt k hk).1)

theorem cell_one_drew (w : World) (q : Nat) (x : Value) (t : TypeId) : ∀ j u, [x][j]? = some u → ((w.drewN q).alloc (.cells #[x] t)).cell? ((⟨w.heap.size, 0, none⟩ : Addr).add j) = some u := by
  intro j u hj
  have h := cell_one_new (w.drewN q) x t j u hj
  exact h

theorem cell_owned {w : World} {base : Nat} {e : TypeId} {size g n c : Nat} {xs : List Value} (h : w.ownsRow base e size (.slice (some ⟨g, 0, none⟩) n c) n xs) (j : Nat) (hj : j < n * size) : ∃ x, w.cell? ⟨g, j, none⟩ = some x := by
  rw [h.cellAt j hj, List.getElem?_eq_getElem (by rw [h.1]; exact hj)]
  exact ⟨_, rfl⟩

set_option maxHeartbeats 2000000 in
set_option maxRecDepth 10000 in
theorem bmodel_some (b off n c : Nat) (T A R : Nat → Int) (w : World) (hn : n ≤ 1024) (hg : b < w.heap.size)
    (hT : ∀ i, i < n → w.cell? ⟨b, off + i * 3, none⟩ = some (.int .i64 (T i)))
    (hA : ∀ i, i < n → w.cell? ⟨b, off + i * 3 + 1, none⟩ = some (.int .i64 (A i)))
    (hR : ∀ i, i < n → w.cell? ⟨b, off + i * 3 + 2, none⟩ = some (.int .i64 (R i))) :
    Calls Yba.prog 3 #[.slice (some ⟨b, off, none⟩) n c] w fun e w' => e = .returned (.bool true) ∧ Below w.heap.size w w' := by
  have hdn : decide (1024 < (n : Int)) = false := by simp; omega
  have hq := fun wx a l c => run_neq_slice_nil_any (P := Yba.prog) wx 22 25 a l c 0 0 Yba.underlying22
  obtain ⟨i0, hi, hz0, hz1, hz2⟩ := info_parts info27
  go_enter Yba.func3, Yba.ntmps3
  go_wp2_with (first
    | (at_make; refine wpList_make_full _ rfl _ _ 23 rfl w.heap.size 27 i0 (.agg #[.int .i64 0, .int .i64 0, .int .i64 0]) 3 Yba.underlying23 hi hz0 hz1 .i64 .i64 _ _ n rfl rfl (by omega) (by omega) (by rw [hz2]; omega) (by unfold maxLen; omega) (Nat.le_refl _) ?_; intro w0 hown0 hg0)
    | go_in)
  go_loopw [4] (fun i wr => ∃ (k : Nat) (xs : List Value), k ≤ n ∧ i = .int .i64 k ∧ wr.ownsRow w.heap.size 27 3 (.slice (some ⟨w.heap.size, 0, none⟩) n n) n xs ∧ Filled T A R k xs ∧ Below w.heap.size w wr) (fun i _ => n - (intOf i).toNat)
  case atStart => exact ⟨0, _, Nat.zero_le _, rfl, hown0, fun i hi => absurd hi (Nat.not_lt_zero _), (Below.refl _ _).grown hg0 (Nat.le_refl _) (fun k hk => by cases hk)⟩
  case round =>
    obtain ⟨k, xs, hk, rfl, hown, hfill, hb⟩ := hrel
    by_cases hlt : k < n
    · have cT := (hb.cell (p := ⟨b, off + k * 3, none⟩) hg).trans (hT k hlt)
      have cA := (hb.cell (p := ⟨b, off + k * 3 + 1, none⟩) hg).trans (hA k hlt)
      have cR := (hb.cell (p := ⟨b, off + k * 3 + 2, none⟩) hg).trans (hR k hlt)
      obtain ⟨x0, d0⟩ := cell_owned hown (k * 3) (by omega)
      obtain ⟨x1, d1⟩ := cell_owned hown (k * 3 + 1) (by omega)
      obtain ⟨x2, d2⟩ := cell_owned hown (k * 3 + 2) (by omega)
      have f0 := hown.frozenAt (k * 3)
      have f1 := hown.frozenAt (k * 3 + 1)
      have f2 := hown.frozenAt (k * 3 + 2)
      go_wp2
      go_region
      obtain ⟨ys, R1, R2, R3⟩ := row_step hlt hown hfill hb
      clear cT cA cR d0 d1 d2 f0 f1 f2 hown hfill hb
      go_wp2
      go_roundw
      case rel => exact ⟨k + 1, ys, by omega, by go_num, R1, R2, R3⟩
      case measure => simp [intOf]; omega
    · have hkn : k = n := by omega
      subst hkn
      have hgT : ∀ i, i < k → wr.cell? ⟨w.heap.size, i * 3, none⟩ = some (.int .i64 (T i)) := fun i hi => (hown.cellAt _ (by omega)).trans (hfill i hi).1
      have hgA : ∀ i, i < k → wr.cell? ⟨w.heap.size, i * 3 + 1, none⟩ = some (.int .i64 (A i)) := fun i hi => (hown.cellAt _ (by omega)).trans (hfill i hi).2.1
      have hgR : ∀ i, i < k → wr.cell? ⟨w.heap.size, i * 3 + 2, none⟩ = some (.int .i64 (R i)) := fun i hi => (hown.cellAt _ (by omega)).trans (hfill i hi).2.2
      have hsz : w.heap.size < wr.heap.size := (hown.lt w.heap.size rfl).2
      have HC := hide (hopeless_any w.heap.size k k T A R wr hn hsz hgT hgA hgR)
      go_wp2_with (go_at_call 5; refine (unhide HC).mono ?_; rintro e w1 ⟨v1, rfl, hown1, hnil1, hb1⟩)
      obtain ⟨i3, hi3, hy0, hy1, hy2⟩ := info_parts info3
      have hbB := hb.size
      have hbB1 := hb1.size
      have hA1 : ∀ i, i < k → w1.cell? ⟨b, off + i * 3 + 1, none⟩ = some (.int .i64 (A i)) := fun i hi => (hb1.cell (p := ⟨b, off + i * 3 + 1, none⟩) (by exact Nat.lt_of_lt_of_le hg hbB)).trans ((hb.cell (p := ⟨b, off + i * 3 + 1, none⟩) hg).trans (hA i hi))
      have hR1 : ∀ i, i < k → w1.cell? ⟨b, off + i * 3 + 2, none⟩ = some (.int .i64 (R i)) := fun i hi => (hb1.cell (p := ⟨b, off + i * 3 + 2, none⟩) (by exact Nat.lt_of_lt_of_le hg hbB)).trans ((hb.cell (p := ⟨b, off + i * 3 + 2, none⟩) hg).trans (hR i hi))
      have hT1 : ∀ i, i < k → w1.cell? ⟨b, off + i * 3, none⟩ = some (.int .i64 (T i)) := fun i hi => (hb1.cell (p := ⟨b, off + i * 3, none⟩) (by exact Nat.lt_of_lt_of_le hg hbB)).trans ((hb.cell (p := ⟨b, off + i * 3, none⟩) hg).trans (hT i hi))
      have hgT1 : ∀ i, i < k → w1.cell? ⟨w.heap.size, i * 3, none⟩ = some (.int .i64 (T i)) := fun i hi => (hb1.cell (p := ⟨w.heap.size, i * 3, none⟩) hsz).trans (hgT i hi)
      have hgA1 : ∀ i, i < k → w1.cell? ⟨w.heap.size, i * 3 + 1, none⟩ = some (.int .i64 (A i)) := fun i hi => (hb1.cell (p := ⟨w.heap.size, i * 3 + 1, none⟩) hsz).trans (hgA i hi)
      have hgR1 : ∀ i, i < k → w1.cell? ⟨w.heap.size, i * 3 + 2, none⟩ = some (.int .i64 (R i)) := fun i hi => (hb1.cell (p := ⟨w.heap.size, i * 3 + 2, none⟩) hsz).trans (hgR i hi)
      have hbw : b < w1.heap.size := by omega
      have hsw : w.heap.size < w1.heap.size := by omega
      have hbt : Below w.heap.size w w1 := hb.trans (hb1.mono hb.size)
      clear hT hA hR hgT hgA hgR hown hfill hb hb1 HC hown0 hg0
      obtain ⟨L, hL⟩ : ∃ L, L = Hop.lat R k := ⟨_, rfl⟩
      rw [← hL] at hown1 hnil1
      have HL : Hid (L = Hop.lat R k) := hL
      have HN : Hid (Hop.hop A L k = [] → v1 = .slice none 0 0) := hnil1
      clear hL hnil1
      go_loopw [6, 7] (fun v i wx => ∃ t : Nat, t ≤ k ∧ i = .int .i64 t ∧ wx.ownsRow w1.heap.size 3 1 v (Hop.hop A L t).length ((Hop.hop A L t).map (Value.int .i64)) ∧
          Hid (Hop.hop A L t = [] → v = .slice none 0 0) ∧ Below w1.heap.size w1 wx) (fun _ i _ => k - (intOf i).toNat)
      case atStart => exact ⟨0, Nat.zero_le _, rfl, World.ownsRow_nil _ _ _ _, fun _ => rfl, Below.refl _ _⟩
      case round =>
        obtain ⟨t, ht, rfl, hown, hnil, hb⟩ := hrel
        by_cases hlt : t < k
        · have cA := (hb.cell (p := ⟨b, off + t * 3 + 1, none⟩) hbw).trans (hA1 t hlt)
          have hlen := Hop.hop_len A L t
          go_wp2
          go_loopw [8, 9] (fun o j wx => ∃ (m q : Nat), m ≤ k ∧ j = .int .i64 m ∧ o = .bool (decide (Hop.lat R m < A t)) ∧ wx = wr.drewN q) (fun _ j _ => k - (intOf j).toNat)
          case atStart => exact ⟨0, 0, Nat.zero_le _, rfl, rfl, rfl⟩
          case round =>
            obtain ⟨m, q, hm, rfl, rfl, rfl⟩ := hrel
            by_cases hlm : m < k
            · have cR := (hb.cell (p := ⟨b, off + m * 3 + 2, none⟩) hbw).trans (hR1 m hlm)
              by_cases hge : A t ≤ R m
              · have HS := hide (Hop.lat_yes R m (A t) hge)
                go_wp2
                go_quiet (fail)
                go_wp2
                go_roundw
                case rel => exact ⟨m + 1, _, by omega, by go_num, by rw [HS.out], rfl⟩
                case measure => simp [intOf]; omega
              · have HS := hide (Hop.lat_no R m (A t) hge)
                go_wp2
                go_quiet (fail)
                go_wp2
                go_roundw
                case rel => exact ⟨m + 1, _, by omega, by go_num, by rw [HS.out], rfl⟩
                case measure => simp [intOf]; omega
            · have hmk : m = k := by omega
              subst hmk
              have e := HL.out
              rw [← e]
              clear e
              by_cases hit : L < A t
              · have hd : decide (L < A t) = true := by simpa using hit
                go_wp2_with (first
                  | (at_builtin; refine wpList_append_own _ rfl _ _ 28 rfl w1.heap.size 3 i3 (.int .i64 0) 1 8 Yba.underlying28 hi3 hy0 hy1 hy2 rfl (by decide) _ _ _ rfl (by exact hown.alloc _) ⟨wr.heap.size, 0, none⟩ 1 1 [.int .i64 (t : Int)] rfl rfl ?c1 ?c2 ?c3 ?c4 ?c5 ?_)
                  | go_in)
                case c1 =>
                  exact cell_one_drew wr q _ 3
                case c2 => intro u hu; simp at hu; subst hu; rfl
                case c3 => unfold maxLen; omega
                case c4 => omega
                case c5 => have := hb.size; simp; omega
                · intro v' w2 hown' hgrow hne
                  have hb2 := below_app1 (below_drewN hb q) (by simpa using hb.size) (by exact hown) hgrow
                  have HH : Hid (Hop.hop A L (t + 1) = Hop.hop A L t ++ [(t : Int)]) := Hop.hop_hit A L t hit
                  clear hgrow hown hb cA hnil hne
                  go_wp2
                  go_roundw
                  case rel => exact ⟨t + 1, by omega, by go_num, by rw [HH.out]; simpa using hown', fun h => absurd h (by rw [HH.out]; simp), hb2⟩
                  case measure => simp [intOf]; omega
              · have hd : decide (L < A t) = false := by simpa using hit
                have HH : Hid (Hop.hop A L (t + 1) = Hop.hop A L t) := Hop.hop_miss A L t hit
                go_wp2
                go_roundw
                case rel => exact ⟨t + 1, by omega, by go_num, by rw [HH.out]; exact hown, by rw [HH.out]; exact hnil, below_drewN hb q⟩
                case measure => simp [intOf]; omega
        · have htk : t = k := by omega
          subst htk
          have hq28 := fun wx a l c => Lib.run_eql_slice_nil (P := Yba.prog) wx 28 3 a l c 0 0 Yba.underlying28
          by_cases hH : Hop.hop A L t = []
          · have e1 := HN.out hH
            have e2 := hnil.out hH
            rw [e1, e2]
            clear e1 e2 HN hnil hown hown1 hH
            go_wp2
            refine wp_loop_rounds 1 ?_
            rw [rounds_succ]
            go_wp2
            go_loopw [11] (fun i wx => ∃ (m q : Nat), m ≤ t ∧ i = .int .i64 m ∧ wx = wr.drewN q) (fun i _ => t - (intOf i).toNat)
            case atStart => exact ⟨0, 0, Nat.zero_le _, rfl, rfl⟩
            case round =>
              obtain ⟨m, q, hm, rfl, rfl⟩ := hrel
              by_cases hlm : m < t
              · have cT := (hb.cell (p := ⟨b, off + m * 3, none⟩) hbw).trans (hT1 m hlm)
                have cA := (hb.cell (p := ⟨b, off + m * 3 + 1, none⟩) hbw).trans (hA1 m hlm)
                have cR := (hb.cell (p := ⟨b, off + m * 3 + 2, none⟩) hbw).trans (hR1 m hlm)
                have dT := (hb.cell (p := ⟨w.heap.size, m * 3, none⟩) hsw).trans (hgT1 m hlm)
                have dA := (hb.cell (p := ⟨w.heap.size, m * 3 + 1, none⟩) hsw).trans (hgA1 m hlm)
                have dR := (hb.cell (p := ⟨w.heap.size, m * 3 + 2, none⟩) hsw).trans (hgR1 m hlm)
                go_wp2
                go_quiet (fail)
                go_wp2
                go_roundw
                case rel => exact ⟨m + 1, _, by omega, by go_num, rfl⟩
                case measure => simp [intOf]; omega
              · go_wp2
                go_ret
                exact ⟨rfl, below_drewN (hbt.trans (hb.mono (by omega))) _⟩
          · obtain ⟨g1, c1, e1, hg1, hc1⟩ := row_shape hown1 hH
            obtain ⟨g2, c2, e2, hg2, hc2⟩ := row_shape hown hH
            rw [e1, e2]
            have hlen := Hop.hop_len A L t
            generalize (Hop.hop A L t).length = l at *
            generalize hf : (fun j => (Hop.hop A L t).getD j 0) = f at *
            have hc1' : ∀ j, j < l → wr.cell? ⟨g1, j, none⟩ = some (.int .i64 (f j)) := fun j hj => (hb.cell (p := ⟨g1, j, none⟩) hg1).trans ((hc1 j hj).trans (by rw [← hf]))
            have hc2' : ∀ j, j < l → wr.cell? ⟨g2, j, none⟩ = some (.int .i64 (f j)) := fun j hj => (hc2 j hj).trans (by rw [← hf])
            clear e1 e2 HN hnil hown hown1 hH hc1 hc2 hf hg1 hg2
            go_wp2
            go_loopw [10] (fun i wx => ∃ (m q : Nat), m ≤ l ∧ i = .int .i64 m ∧ wx = wr.drewN q) (fun i _ => l - (intOf i).toNat)
            case atStart => exact ⟨0, 0, Nat.zero_le _, rfl, rfl⟩
            case round =>
              obtain ⟨m, q, hm, rfl, rfl⟩ := hrel
              by_cases hlm : m < l
              · have d1 := hc1' m hlm
                have d2 := hc2' m hlm
                go_wp2
                go_quiet (fail)
                go_wp2
                go_roundw
                case rel => exact ⟨m + 1, _, by omega, by go_num, rfl⟩
                case measure => simp [intOf]; omega
              · go_wp2
                go_loopw [11] (fun i wx => ∃ (m q : Nat), m ≤ t ∧ i = .int .i64 m ∧ wx = wr.drewN q) (fun i _ => t - (intOf i).toNat)
                case atStart => exact ⟨0, q, Nat.zero_le _, rfl, rfl⟩
                case round =>
                  obtain ⟨m, q2, hm, rfl, rfl⟩ := hrel
                  by_cases hlm : m < t
                  · have cT := (hb.cell (p := ⟨b, off + m * 3, none⟩) hbw).trans (hT1 m hlm)
                    have cA := (hb.cell (p := ⟨b, off + m * 3 + 1, none⟩) hbw).trans (hA1 m hlm)
                    have cR := (hb.cell (p := ⟨b, off + m * 3 + 2, none⟩) hbw).trans (hR1 m hlm)
                    have dT := (hb.cell (p := ⟨w.heap.size, m * 3, none⟩) hsw).trans (hgT1 m hlm)
                    have dA := (hb.cell (p := ⟨w.heap.size, m * 3 + 1, none⟩) hsw).trans (hgA1 m hlm)
                    have dR := (hb.cell (p := ⟨w.heap.size, m * 3 + 2, none⟩) hsw).trans (hgR1 m hlm)
                    go_wp2
                    go_quiet (fail)
                    go_wp2
                    go_roundw
                    case rel => exact ⟨m + 1, _, by omega, by go_num, rfl⟩
                    case measure => simp [intOf]; omega
                  · go_wp2
                    go_ret
                    exact ⟨rfl, below_drewN (hbt.trans (hb.mono (by omega))) _⟩
end Go.Proofs.Ybulkbhpq
