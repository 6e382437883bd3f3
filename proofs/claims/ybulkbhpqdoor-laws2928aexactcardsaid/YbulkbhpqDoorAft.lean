/- backwardSearch.after (5): the walk. -/
import Derived.Test.YbulkbhpqDoorRow
import Derived.Deep.Cut
namespace Go.Proofs.YbulkbhpqDoor
open Go.RowKit Plain
set_option linter.unusedVariables false
set_option linter.unusedSimpArgs false

/-- the last loop of after: a standing that is not free is moved to the write behind it -/
def fin1 (W : Nat → Int → Int) (e : Ent) : Ent := (e.1, if 0 ≤ e.2.1 then W e.1 e.2.1 else e.2.1, e.2.2)

def midL (W : Nat → Int → Int) (l : List Ent) (i : Nat) : List Ent := (l.take i).map (fin1 W) ++ l.drop i
theorem midL_get (W : Nat → Int → Int) (l : List Ent) (i : Nat) (hi : i < l.length) : (midL W l i)[i]? = l[i]? := by
  unfold midL
  rw [List.getElem?_append_right (by simp; omega)]
  simp [Nat.min_eq_left (Nat.le_of_lt hi)]
theorem midL_length (W : Nat → Int → Int) (l : List Ent) (i : Nat) (hi : i ≤ l.length) : (midL W l i).length = l.length := by
  simp [midL]; omega
theorem midL_succ (W : Nat → Int → Int) (l : List Ent) (i : Nat) (e : Ent) (he : l[i]? = some e) : midL W l (i + 1) = (midL W l i).set i (fin1 W e) := by
  have hi : i < l.length := (List.getElem?_eq_some_iff.1 he).1
  have hge : l[i] = e := (List.getElem?_eq_some_iff.1 he).2
  unfold midL
  rw [List.take_add_one, he, List.map_append, List.set_append_right _ _ (by simp; omega)]
  rw [List.drop_eq_getElem_cons hi, hge]
  simp [Nat.min_eq_left (Nat.le_of_lt hi)]
theorem midL_zero (W : Nat → Int → Int) (l : List Ent) : midL W l 0 = l := by simp [midL]
theorem midL_full (W : Nat → Int → Int) (l : List Ent) : midL W l l.length = l.map (fin1 W) := by simp [midL]

theorem stp_ro_lt (tx : List Nat) (s : St) (x : Nat) (a : Int) (hx : x < 4) (h : ∀ y, y ∈ s.ro → y < 4) : ∀ y, y ∈ (stp tx s x a).ro → y < 4 := by
  unfold stp
  split
  · show ∀ y, y ∈ (if x ∈ tx then s.ro else s.ro ++ [x]) → y < 4
    split
    · exact h
    · intro y hy
      simp only [List.mem_append, List.mem_singleton] at hy
      rcases hy with hy | rfl
      · exact h y hy
      · exact hx
  · exact h
theorem inn_ro_lt (tx : List Nat) (s : St) (a : Int) (v : Nat → Nat) (n : Nat) (hv : ∀ j, j < n → v j < 4) (h : ∀ y, y ∈ s.ro → y < 4) (j : Nat) (hj : j ≤ n) : ∀ y, y ∈ (innTo tx s a v j).ro → y < 4 := by
  induction j with
  | zero => exact h
  | succ j ih => rw [innTo]; exact stp_ro_lt tx _ _ _ (hv j (by omega)) (ih (by omega))
theorem out_ro_lt (tx : List Nat) (wrt : Nat → Bool) (rat ni : Nat → Nat) (v : Nat → Nat → Nat) (n : Nat) (hv : ∀ i, i < n → ∀ j, j < ni i → v i j < 4) (i : Nat) (hi : i ≤ n) : ∀ y, y ∈ (outTo tx wrt rat ni v i).ro → y < 4 := by
  induction i with
  | zero => intro y hy; simp [outTo, st0] at hy
  | succ i ih =>
    rw [outTo]
    split
    · exact ih (by omega)
    · exact inn_ro_lt tx _ _ _ (ni i) (hv i (by omega)) (ih (by omega)) _ (Nat.le_refl _)
theorem now_bound {tx : List Nat} {s : St} (h : Inv tx s) (sa : Nat → Int) (sf : Nat → Bool) (e : Ent) (he : e ∈ nowL tx sa sf s) : -1 ≤ e.2.1 ∧ e.2.1 ≤ 255 := by
  simp only [nowL, List.mem_append, List.mem_map] at he
  rcases he with ⟨y, hy, rfl⟩ | ⟨y, hy, rfl⟩
  · have h1 := h.low y
    have h2 := h.high y
    simp only [entW]
    omega
  · have h1 := h.low y
    have h2 := h.high y
    simp only [entR]
    split <;> omega
theorem now_item {tx : List Nat} {s : St} (sa : Nat → Int) (sf : Nat → Bool) (h1 : ∀ y, y ∈ tx → y < 4) (h2 : ∀ y, y ∈ s.ro → y < 4) (e : Ent) (he : e ∈ nowL tx sa sf s) : e.1 < 4 := by
  simp only [nowL, List.mem_append, List.mem_map] at he
  rcases he with ⟨y, hy, rfl⟩ | ⟨y, hy, rfl⟩
  · exact h1 y hy
  · exact h2 y hy

theorem set_self (l : List Ent) (j : Nat) (e : Ent) (h : l[j]? = some e) : l.set j e = l := by
  apply List.ext_getElem?
  intro i
  rw [List.getElem?_set]
  by_cases c : j = i
  · subst c
    rw [if_pos rfl, if_pos (List.getElem?_eq_some_iff.1 h).1, h]
  · rw [if_neg c]

/-- what after is told of its memory -/
structure AIn (S T IB ST OP : Nat) (tv : Option Addr) (tc TB : Nat) (tx : List Nat) (wa : Nat → Option Addr) (wn wcap wb : Nat → Nat) (so : Nat → Nat → Nat) (sa : Nat → Int) (sf : Nat → Bool)
    (ra : Option Addr) (nr : Nat) (wrt : Nat → Bool) (rat : Nat → Nat) (ia : Nat → Option Addr) (ni ic ib : Nat → Nat) (v : Nat → Nat → Nat) (w : World) : Prop where
  s0 : w.cell? ⟨S, 0, none⟩ = some (.slice (some ⟨T, 0, none⟩) 1 1)
  s1 : w.cell? ⟨S, 1, none⟩ = some (.slice (some ⟨IB, 0, none⟩) 4 4)
  t1 : w.cell? ⟨T, 1, none⟩ = some (.slice tv tx.length tc)
  tp : 0 < tx.length → tv = some ⟨TB, 0, none⟩
  tcell : ∀ (k x : Nat), tx[k]? = some x → w.cell? ⟨TB, k, none⟩ = some (.int .i64 (x : Int)) ∧ x < 4
  it : ∀ x, x < 4 → w.cell? ⟨IB, x * 13 + 1, none⟩ = some (.slice (wa x) (wn x) (wcap x))
  wp : ∀ x, x < 4 → 0 < wn x → wa x = some ⟨wb x, 0, none⟩
  wl : ∀ x, x < 4 → wn x ≤ 1024
  w0 : ∀ x, x < 4 → ∀ k, k < wn x → w.cell? ⟨wb x, k * 3, none⟩ = some (.int .i64 0)
  w1 : ∀ x, x < 4 → ∀ k, k < wn x → w.cell? ⟨wb x, k * 3 + 1, none⟩ = some (.int .i64 (so x k : Int))
  w2 : ∀ x, x < 4 → ∀ k, k < wn x → w.cell? ⟨wb x, k * 3 + 2, none⟩ = some (.int .i64 (-1))
  sl : ∀ x, x < 4 → ∀ k, k < wn x → so x k ≤ 255
  mono : ∀ x, x < 4 → ∀ i j, i ≤ j → j < wn x → so x i ≤ so x j
  st0 : ∀ x, x < 4 → w.cell? ⟨ST, x * 2, none⟩ = some (.int .i64 (sa x))
  st1 : ∀ x, x < 4 → w.cell? ⟨ST, x * 2 + 1, none⟩ = some (.bool (sf x))
  sb : ∀ x, x < 4 → -32768 ≤ sa x ∧ sa x ≤ 32767
  rp : 0 < nr → ra = some ⟨OP, 0, none⟩
  r0 : ∀ i, i < nr → w.cell? ⟨OP, i * 3, none⟩ = some (.bool (wrt i))
  r1 : ∀ i, i < nr → w.cell? ⟨OP, i * 3 + 1, none⟩ = some (.int .i64 (rat i : Int))
  r2 : ∀ i, i < nr → w.cell? ⟨OP, i * 3 + 2, none⟩ = some (.slice (ia i) (ni i) (ic i))
  rl : ∀ i, i < nr → rat i ≤ 255 ∧ ni i ≤ 1024
  ip : ∀ i, i < nr → 0 < ni i → ia i = some ⟨ib i, 0, none⟩
  ic' : ∀ i, i < nr → ∀ j, j < ni i → w.cell? ⟨ib i, j, none⟩ = some (.int .i64 (v i j : Int)) ∧ v i j < 4
  g0 : w.cell? ⟨0, 0, none⟩ = some (.int .i64 (-1))
  g1 : w.cell? ⟨0, 1, none⟩ = some (.bool false)

set_option maxHeartbeats 4000000 in
set_option maxRecDepth 100000 in
theorem after_any (S T IB ST OP : Nat) (tv : Option Addr) (tc TB : Nat) (tx : List Nat) (wa : Nat → Option Addr) (wn wcap wb : Nat → Nat) (so : Nat → Nat → Nat) (sa : Nat → Int) (sf : Nat → Bool)
    (ra : Option Addr) (nr rc : Nat) (wrt : Nat → Bool) (rat : Nat → Nat) (ia : Nat → Option Addr) (ni ic ib : Nat → Nat) (v : Nat → Nat → Nat) (w : World)
    (hI : AIn S T IB ST OP tv tc TB tx wa wn wcap wb so sa sf ra nr wrt rat ia ni ic ib v w) (hnd : tx.Nodup) (hm : tx.length ≤ 4) (hnr : nr ≤ 1024) :
    Calls Ybad.prog 5 #[.pointer (some ⟨S, 0, none⟩), .slice (some ⟨ST, 0, none⟩) 4 4, .int .i64 0, .agg #[.slice ra nr rc, .slice none 0 0]] w fun e w' => ∃ g cap : Nat, e = .returned (.slice (some ⟨g, 0, none⟩) (nowL tx sa sf (outTo tx wrt rat ni v nr)).length cap) ∧ NowAt w.heap.size g cap ((nowL tx sa sf (outTo tx wrt rat ni v nr)).map (fin1 (fun x a => bestTo (so x) a (wn x)))) w' ∧ Below w.heap.size w w' := by
  have HI := hideR hI
  have s0 := hI.s0
  have t1 := hI.t1
  have h0 : ∀ o, (w.alloc o).cell? ⟨S, 0, none⟩ = some (.slice (some ⟨T, 0, none⟩) 1 1) := fun o => kept ((Below.refl _ w).alloc (Nat.le_refl _) o) s0
  have h1 : ∀ o, (w.alloc o).cell? ⟨T, 1, none⟩ = some (.slice tv tx.length tc) := fun o => kept ((Below.refl _ w).alloc (Nat.le_refl _) o) t1
  obtain ⟨i75, hi75, hz75⟩ := Option.map_eq_some_iff.1 info75
  simp only [Prod.mk.injEq] at hz75
  obtain ⟨hz, hs, hby⟩ := hz75
  have hmk : ∀ wx, (Instr.makeSlice 70 (.int .i64 0) (.int .i64 (tx.length : Int))).run Ybad.prog wx = .ok (.slice (some ⟨wx.heap.size, 0, none⟩) 0 tx.length) (wx.alloc (.cells (madeCells #[.int .i64 0, .int .i64 0, .bool false] (tx.length * 3)) 75)) := by
    intro wx
    have := run_make (P := Ybad.prog) wx 70 75 i75 _ Ybad.underlying70 hi75 hz .i64 .i64 0 (tx.length : Int) (by omega) (by omega) (by rw [hby]; omega) (by omega)
    simpa [hs, Value.cells] using this
  clear hI
  go_enter Ybad.func5, Ybad.ntmps5
  go_upto_region 3 with fail
  have hbA : Below w.heap.size w ((w.alloc (.cells #[.slice ra nr rc, .slice none 0 0] 54)).alloc (.cells (madeCells #[.int .i64 0, .int .i64 0, .bool false] (tx.length * 3)) 75)) := ((Below.refl _ w).alloc (Nat.le_refl _) _).alloc (by simp) _
  have HP : Hid (((w.alloc (.cells #[.slice ra nr rc, .slice none 0 0] 54)).alloc (.cells (madeCells #[.int .i64 0, .int .i64 0, .bool false] (tx.length * 3)) 75)).rowIs w.heap.size 54 2 (fun j => if j = 0 then .slice ra nr rc else .slice none 0 0)) := hideR ((World.rowIs_alloc w #[.slice ra nr rc, .slice none 0 0] 54 _ (fun i hi => by
    match i with
    | 0 | 1 => rfl
    | n + 2 => simp at hi; omega)).alloc _)
  have HN : Hid (NowAt w.heap.size (w.heap.size + 1) tx.length [] ((w.alloc (.cells #[.slice ra nr rc, .slice none 0 0] 54)).alloc (.cells (madeCells #[.int .i64 0, .int .i64 0, .bool false] (tx.length * 3)) 75))) := by
    have := World.ownsRow_made (base := w.heap.size) (e := 75) (size := 3) (w.alloc (.cells #[.slice ra nr rc, .slice none 0 0] 54)) (madeCells #[.int .i64 0, .int .i64 0, .bool false] (tx.length * 3)) tx.length (by simp) (by unfold maxLen; omega) (by simp [madeCells])
    rw [World.size_alloc] at this
    exact hideR this
  have ht : ((w.alloc (.cells #[.slice ra nr rc, .slice none 0 0] 54)).alloc (.cells (madeCells #[.int .i64 0, .int .i64 0, .bool false] (tx.length * 3)) 75)).cell? ⟨T, 1, none⟩ = some (.slice tv tx.length tc) := kept hbA t1
  generalize ((w.alloc (.cells #[.slice ra nr rc, .slice none 0 0] 54)).alloc (.cells (madeCells #[.int .i64 0, .int .i64 0, .bool false] (tx.length * 3)) 75)) = wA at *
  clear hmk h0 h1 s0 t1
  go_wp2
  go_loopw [10, 40] (fun v i wx => ∃ k g cap : Nat, k ≤ tx.length ∧ i = .int .i64 k ∧ v = .slice (some ⟨g, 0, none⟩) k cap ∧ Hid (NowAt w.heap.size g cap ((tx.take k).map (entW st0)) wx) ∧ Hid (wx.rowIs w.heap.size 54 2 (fun j => if j = 0 then .slice ra nr rc else .slice none 0 0)) ∧ Below w.heap.size w wx) (fun _ i _ => tx.length - (intOf i).toNat)
  case atStart => exact ⟨0, _, _, by omega, rfl, rfl, by simpa using HN, HP, hbA⟩
  case round =>
    obtain ⟨k, g, cap, hk, rfl, rfl, HR, HPx, hb⟩ := hrel
    by_cases hlt : k < tx.length
    · obtain rfl := HI.out.tp (by omega)
      obtain ⟨x, hx⟩ : ∃ x, tx[k]? = some x := ⟨_, List.getElem?_eq_getElem hlt⟩
      obtain ⟨hc0, hx4⟩ := HI.out.tcell k x hx
      have hc := kept hb hc0
      have g0 := kept hb HI.out.g0
      have g1 := kept hb HI.out.g1
      have i1 : (k : Int) < (tx.length : Int) := by omega
      clear hc0
      have HLEN := hideR (show k = ((tx.take k).map (entW st0)).length by simp; omega)
      have hB := hb.size
      have htk : tx.take (k + 1) = tx.take k ++ [x] := by
        rw [List.take_add_one, hx]; rfl
      have HT := hideR htk
      clear htk
      go_wp2_with (first
        | (at_builtin; refine wp_append_now rfl _ _ rfl w.heap.size g cap _ k HLEN.out rfl HR.out x (-1) false wr.heap.size rfl rfl (by simp; omega) hB ?_)
        | go_in)
      intro g' cap' w2 hN2 hoth hb2
      have HR2 : Hid (NowAt w.heap.size g' cap' ((tx.take (k + 1)).map (entW st0)) w2) := by rw [HT.out, List.map_append, List.map_take]; exact hideR hN2
      have HP2 := hideR (HPx.out.of_block (hoth _ HPx.out.lt (NowAt.ne HR.out HPx.out (by decide))))
      have hb3 := hb.trans hb2
      clear hN2 hoth hb2 HR HPx
      go_wp2
      go_roundw
      case rel => exact ⟨k + 1, g', cap', by omega, by go_num, rfl, HR2, HP2, hb3⟩
      case measure => simp [intOf]; omega
    · obtain rfl : k = tx.length := by omega
      obtain ⟨wB, hwB⟩ : ∃ x, x = wr := ⟨_, rfl⟩
      subst hwB
      have HNB : Hid (NowAt w.heap.size g cap (nowL tx sa sf st0) wB) := by
        have := HR.out
        rw [List.take_length] at this
        simpa [nowL, st0] using hideR this
      have pr := HPx.out.cell (i := 0) (by omega)
      clear HR HP HN
      go_upto_region 9 with fail
      clear hbA ht pr HPx
      go_loopw [10, 54] (fun nv i wx => ∃ k g cap n : Nat, k ≤ nr ∧ i = .int .i64 k ∧ nv = .slice (some ⟨g, 0, none⟩) n cap ∧ Hid (n = (nowL tx sa sf (outTo tx wrt rat ni v k)).length) ∧ Hid (NowAt w.heap.size g cap (nowL tx sa sf (outTo tx wrt rat ni v k)) wx) ∧ Below w.heap.size w wx) (fun _ i _ => nr - (intOf i).toNat)
      case atStart => exact ⟨0, g, cap, _, by omega, rfl, rfl, hideR (by rw [outTo, nowL_length]; simp [st0]), HNB, hb⟩
      case round =>
        obtain ⟨k, g2, cap2, n, hk, rfl, rfl, HL, HR, hb2⟩ := hrel
        by_cases hlt : k < nr
        · obtain rfl := HI.out.rp (by omega)
          have i1 : (k : Int) < (nr : Int) := by omega
          have c0 := kept hb2 (HI.out.r0 k hlt)
          have c1 := kept hb2 (HI.out.r1 k hlt)
          have c2 := kept hb2 (HI.out.r2 k hlt)
          obtain ⟨A, hA⟩ : ∃ A, A = ia k := ⟨_, rfl⟩
          rw [← hA] at c2
          have HA := hideR hA
          clear hA
          by_cases hw : wrt k = true
          · have HO := hideR (show outTo tx wrt rat ni v (k + 1) = outTo tx wrt rat ni v k by rw [outTo, if_pos hw])
            rw [hw] at c0
            have HRa := hideR (HR.out.alloc (.cells #[.bool true, .int .i64 (rat k : Int), .slice A (ni k) (ic k)] 48))
            have hba := hb2.alloc hb2.size (.cells #[.bool true, .int .i64 (rat k : Int), .slice A (ni k) (ic k)] 48)
            clear hw
            go_wp2
            go_roundw
            case rel => exact ⟨k + 1, g2, cap2, n, by omega, by go_num, rfl, by rw [HO.out]; exact HL, by rw [HO.out]; exact HRa, hba⟩
            case measure => simp [intOf]; omega
          · have HO := hideR (show outTo tx wrt rat ni v (k + 1) = innTo tx (outTo tx wrt rat ni v k) (rat k : Int) (v k) (ni k) by rw [outTo, if_neg hw])
            obtain ⟨sk, hsk⟩ : ∃ sk, sk = outTo tx wrt rat ni v k := ⟨_, rfl⟩
            have HInv : Hid (Inv tx sk) := by rw [hsk]; exact hideR (inv_out hnd wrt rat ni v nr (fun i hi => (HI.out.rl i hi).1) k hk)
            have hro : sk.ro.length ≤ 1048576 := by
              have := out_ro_length tx wrt rat ni v nr 1024 (fun i hi => (HI.out.rl i hi).2) k hk
              rw [hsk]; omega
            rw [← hsk] at HL HR HO
            have hat0 := (HI.out.rl k hlt).1
            have hnik := (HI.out.rl k hlt).2
            have hw' : wrt k = false := by simpa using hw
            rw [hw'] at c0
            have HRa := hideR (HR.out.alloc (.cells #[.bool false, .int .i64 (rat k : Int), .slice A (ni k) (ic k)] 48))
            have hba := hb2.alloc hb2.size (.cells #[.bool false, .int .i64 (rat k : Int), .slice A (ni k) (ic k)] 48)
            have HOP := hideR (World.rowIs_alloc wr #[.bool false, .int .i64 (rat k : Int), .slice A (ni k) (ic k)] 48 (fun j => match j with | 0 => .bool false | 1 => .int .i64 (rat k : Int) | _ => .slice A (ni k) (ic k)) (fun i hi => by
              match i with
              | 0 | 1 | 2 => rfl
              | n + 3 => simp at hi; omega))
            go_upto_region 13 with fail
            clear hw hw' c0 c1 c2 hsk HR hb2
            obtain ⟨O, hOe⟩ : ∃ O, O = wr.heap.size := ⟨_, rfl⟩
            rw [← hOe] at HOP ⊢
            generalize (wr.alloc (.cells #[.bool false, .int .i64 (rat k : Int), .slice A (ni k) (ic k)] 48)) = wC at *
            clear hOe wr
            go_loopw [10, 63] (fun nv i wx => ∃ j g cap n : Nat, j ≤ ni k ∧ i = .int .i64 j ∧ nv = .slice (some ⟨g, 0, none⟩) n cap ∧ Hid (n = (nowL tx sa sf (innTo tx sk (rat k : Int) (v k) j)).length) ∧ Hid (NowAt w.heap.size g cap (nowL tx sa sf (innTo tx sk (rat k : Int) (v k) j)) wx) ∧ Hid (wx.rowIs O 48 3 (fun j => match j with | 0 => .bool false | 1 => .int .i64 (rat k : Int) | _ => .slice A (ni k) (ic k))) ∧ Below w.heap.size w wx) (fun _ i _ => ni k - (intOf i).toNat)
            case atStart => exact ⟨0, g2, cap2, n, by omega, rfl, rfl, HL, HRa, HOP, hba⟩
            case round =>
              obtain ⟨j, g3, cap3, n3, hj, rfl, rfl, HL3, HR3, HO3, hb3⟩ := hrel
              by_cases hltj : j < ni k
              · obtain rfl : A = some ⟨ib k, 0, none⟩ := by rw [HA.out]; exact HI.out.ip k hlt (by omega)
                obtain ⟨cj0, hx4⟩ := HI.out.ic' k hlt j hltj
                have cj := kept hb3 cj0
                have i2 : (j : Int) < (ni k : Int) := by omega
                obtain ⟨x, hx⟩ : ∃ x, x = v k j := ⟨_, rfl⟩
                rw [← hx] at cj hx4
                have HX := hideR hx
                have hbx1 : ∀ o, Below w.heap.size w (wr.alloc o) := fun o => hb3.alloc hb3.size o
                have d0 : ∀ o, (wr.alloc o).cell? ⟨ST, x * 2, none⟩ = some (.int .i64 (sa x)) := fun o => kept (hbx1 o) (HI.out.st0 x hx4)
                have d1 : ∀ o, (wr.alloc o).cell? ⟨ST, x * 2 + 1, none⟩ = some (.bool (sf x)) := fun o => kept (hbx1 o) (HI.out.st1 x hx4)
                have i3 : (x : Int) < 4 := by omega
                obtain ⟨l, hl⟩ : ∃ l, l = nowL tx sa sf (innTo tx sk (rat k : Int) (v k) j) := ⟨_, rfl⟩
                rw [← hl] at HL3 HR3
                have HLL := hideR hl
                have hgt : ∀ i, i < n3 → l[i]? = some (l.getD i (0, 0, false)) := fun i hi => by
                  have := HL3.out
                  rw [List.getD_eq_getElem?_getD, List.getElem?_eq_getElem (by omega)]; rfl
                have hn3 : n3 ≤ 10000000 := by
                  have h1 := HL3.out
                  have h2 := inn_ro_length tx sk (rat k : Int) (v k) j
                  rw [hl, nowL_length] at h1
                  omega
                have HRD := hideR ((HR3.out.alloc (.cells #[.int .i64 (x : Int)] 3)).alloc (.cells #[.int .i64 (sa x), .bool (sf x)] 45))
                have HIX := hideR (index_any (some ⟨g3, 0, none⟩) n3 cap3 g3 wr.heap.size (fun i => ((l.getD i (0, 0, false)).1 : Int)) (fun i => (l.getD i (0, 0, false)).2.1) (fun i => (l.getD i (0, 0, false)).2.2) (x : Int) ((wr.alloc (.cells #[.int .i64 (x : Int)] 3)).alloc (.cells #[.int .i64 (sa x), .bool (sf x)] 45)) hn3 (fun _ => rfl)
                  (fun i hi => (HRD.out.cells (hgt i hi)).1) (fun i hi => (HRD.out.cells (hgt i hi)).2.1) (fun i hi => (HRD.out.cells (hgt i hi)).2.2) (by simp))
                have HG := hideR hgt
                clear hl hx hgt cj0
                go_upto_region 17 with (go_at_call 9; refine HIX.out.mono ?_; rintro e w2 ⟨r, rfl, hF, hbD⟩)
                have hbw : Below w.heap.size w w2 := ((hb3.alloc hb3.size _).alloc (by have := hb3.size; simp; omega) _).trans (hbD.mono (by have := hb3.size; simp; omega))
                have HR2 := hideR (HRD.out.below hbD)
                have HO2 := hideR (((HO3.out.alloc (.cells #[.int .i64 (x : Int)] 3)).alloc (.cells #[.int .i64 (sa x), .bool (sf x)] 45)).of_block (hbD.block _ ((HO3.out.alloc (.cells #[.int .i64 (x : Int)] 3)).alloc (.cells #[.int .i64 (sa x), .bool (sf x)] 45)).lt))
                have xc : w2.cell? ⟨wr.heap.size, 0, none⟩ = some (.int .i64 (x : Int)) := kept hbD (by simp)
                have sc0 : w2.cell? ⟨wr.heap.size + 1, 0, none⟩ = some (.int .i64 (sa x)) := kept hbD (by simp)
                have sc1 : w2.cell? ⟨wr.heap.size + 1, 1, none⟩ = some (.bool (sf x)) := kept hbD (by simp)
                have oat : w2.cell? ⟨O, 1, none⟩ = some (.int .i64 (rat k : Int)) := HO2.out.cell (by omega)
                have HIV := hideR (inv_inn HInv.out (rat k : Int) (by omega) (by omega) (v k) j)
                have hBs := hbw.size
                have HIN := hideR (show innTo tx sk (rat k : Int) (v k) (j + 1) = stp tx (innTo tx sk (rat k : Int) (v k) j) x (rat k : Int) by rw [innTo, HX.out])
                clear HRD HIX hbD d0 d1 hbx1 cj HR3 HO3 hb3
                rcases hF with ⟨i, hi, rfl, hit, hmin⟩ | ⟨rfl, hno⟩
                · obtain ⟨e, hge⟩ : ∃ e, l[i]? = some e := ⟨_, HG.out i hi⟩
                  have he1 : e.1 = x := by
                    have h2 := HG.out i hi
                    rw [hge] at h2
                    simp only [Option.some.injEq] at h2
                    have h3 : ((l.getD i (0, 0, false)).1 : Int) = (x : Int) := hit
                    rw [← h2] at h3
                    omega
                  have hem : e ∈ nowL tx sa sf (innTo tx sk (rat k : Int) (v k) j) := by rw [← HLL.out]; exact List.mem_of_getElem? hge
                  obtain ⟨_, q1, _⟩ := HR2.out.cells hge
                  obtain ⟨ea, hea⟩ : ∃ ea, ea = e.2.1 := ⟨_, rfl⟩
                  rw [← hea] at q1
                  have i5 : (i : Int) < (n3 : Int) := by omega
                  have hgb := HR2.out.base.1
                  clear hit hmin
                  by_cases ha : ea < 0
                  · have t1 : decide (ea < 0) = true := by simpa using ha
                    have qf := HR2.out.frozen (i * 3 + 1)
                    have HNW : Hid (nowL tx sa sf (innTo tx sk (rat k : Int) (v k) (j + 1)) = l.set i (e.1, (rat k : Int), e.2.2)) := by
                      rw [HIN.out, now_set HIV.out sa sf x (rat k : Int) i e (by rw [← HLL.out]; exact hge) he1 (by omega), ← HLL.out, he1]
                      exact hideR rfl
                    have HR4 : Hid (NowAt w.heap.size g3 cap3 (nowL tx sa sf (innTo tx sk (rat k : Int) (v k) (j + 1))) (w2.setCell ⟨g3, i * 3 + 1, none⟩ (.int .i64 (rat k : Int)))) := by rw [HNW.out]; exact hideR (HR2.out.set hge (rat k : Int))
                    have HO4 := hideR (HO2.out.setOther (a := ⟨g3, i * 3 + 1, none⟩) (NowAt.ne HR2.out HO2.out (by decide)) (.int .i64 (rat k : Int)))
                    have hb5 : Below w.heap.size w (w2.setCell ⟨g3, i * 3 + 1, none⟩ (.int .i64 (rat k : Int))) := hbw.setCell hgb _
                    have HL4 : Hid (n3 = (nowL tx sa sf (innTo tx sk (rat k : Int) (v k) (j + 1))).length) := by rw [HNW.out, List.length_set]; exact HL3
                    clear HR2 HO2 hbw HNW he1 hea hge hem
                    go_wp2
                    go_roundw
                    case rel => exact ⟨j + 1, g3, cap3, n3, by omega, by go_num, rfl, HL4, HR4, HO4, hb5⟩
                    case measure => simp [intOf]; omega
                  · have t1 : decide (ea < 0) = false := by simpa using ha
                    have HNW : Hid (nowL tx sa sf (innTo tx sk (rat k : Int) (v k) (j + 1)) = l) := by
                      rw [HIN.out, now_old HIV.out sa sf x (rat k : Int) e hem he1 (by omega), HLL.out]
                      exact hideR rfl
                    clear he1 hea hge hem
                    go_wp2
                    go_roundw
                    case rel => exact ⟨j + 1, g3, cap3, n3, by omega, by go_num, rfl, by rw [HNW.out]; exact HL3, by rw [HNW.out]; exact HR2, HO2, hbw⟩
                    case measure => simp [intOf]; omega
                · have HNEW : Hid (nowL tx sa sf (innTo tx sk (rat k : Int) (v k) (j + 1)) = l ++ [(x, if 0 ≤ sa x then min (rat k : Int) (sa x) else (rat k : Int), sf x)]) := by
                    rw [HIN.out, HLL.out]
                    refine hideR (now_new HIV.out sa sf x _ (by omega) ?_)
                    intro e he
                    rw [← HLL.out] at he
                    obtain ⟨q, hq⟩ := List.mem_iff_getElem?.1 he
                    have hqn : q < n3 := by have := HL3.out; have := (List.getElem?_eq_some_iff.1 hq).1; omega
                    have := hno q hqn
                    have h2 := HG.out q hqn
                    rw [hq] at h2
                    simp only [Option.some.injEq] at h2
                    intro hh
                    exact this (by show ((l.getD q (0, 0, false)).1 : Int) = (x : Int); rw [← h2, hh])
                  clear hno
                  by_cases hs0 : 0 ≤ sa x
                  · have t1 : decide (0 ≤ sa x) = true := by simpa using hs0
                    by_cases hmn : (rat k : Int) ≤ sa x
                    · have HMN := hideR (show min (rat k : Int) (sa x) = (rat k : Int) by omega)
                      go_wp2_with (first
                        | (at_builtin; refine wp_append_now rfl _ _ rfl w.heap.size g3 cap3 l n3 HL3.out rfl HR2.out x (rat k : Int) (sf x) w2.heap.size rfl rfl (by have := HL3.out; omega) hBs ?_)
                        | go_in)
                      intro g' cap' w4 hN4 hoth hb4
                      have HR4 : Hid (NowAt w.heap.size g' cap' (nowL tx sa sf (innTo tx sk (rat k : Int) (v k) (j + 1))) w4) := by rw [HNEW.out, if_pos hs0, HMN.out]; exact hideR hN4
                      have HO4 := hideR (HO2.out.of_block (hoth _ HO2.out.lt (NowAt.ne HR2.out HO2.out (by decide))))
                      have hb5 := hbw.trans hb4
                      have HL4 : Hid (n3 + 1 = (nowL tx sa sf (innTo tx sk (rat k : Int) (v k) (j + 1))).length) := by rw [HNEW.out, List.length_append, ← HL3.out]; exact hideR rfl
                      clear hN4 hoth hb4 HR2 HO2 hbw xc sc0 sc1 oat
                      go_wp2
                      go_roundw
                      case rel => exact ⟨j + 1, g', cap', n3 + 1, by omega, by go_num, rfl, HL4, HR4, HO4, hb5⟩
                      case measure => simp [intOf]; omega
                    · have HMN := hideR (show min (rat k : Int) (sa x) = sa x by omega)
                      go_wp2_with (first
                        | (at_builtin; refine wp_append_now rfl _ _ rfl w.heap.size g3 cap3 l n3 HL3.out rfl HR2.out x (sa x) (sf x) w2.heap.size rfl rfl (by have := HL3.out; omega) hBs ?_)
                        | go_in)
                      intro g' cap' w4 hN4 hoth hb4
                      have HR4 : Hid (NowAt w.heap.size g' cap' (nowL tx sa sf (innTo tx sk (rat k : Int) (v k) (j + 1))) w4) := by rw [HNEW.out, if_pos hs0, HMN.out]; exact hideR hN4
                      have HO4 := hideR (HO2.out.of_block (hoth _ HO2.out.lt (NowAt.ne HR2.out HO2.out (by decide))))
                      have hb5 := hbw.trans hb4
                      have HL4 : Hid (n3 + 1 = (nowL tx sa sf (innTo tx sk (rat k : Int) (v k) (j + 1))).length) := by rw [HNEW.out, List.length_append, ← HL3.out]; exact hideR rfl
                      clear hN4 hoth hb4 HR2 HO2 hbw xc sc0 sc1 oat
                      go_wp2
                      go_roundw
                      case rel => exact ⟨j + 1, g', cap', n3 + 1, by omega, by go_num, rfl, HL4, HR4, HO4, hb5⟩
                      case measure => simp [intOf]; omega
                  · have t1 : decide (0 ≤ sa x) = false := by simpa using hs0
                    go_wp2_with (first
                      | (at_builtin; refine wp_append_now rfl _ _ rfl w.heap.size g3 cap3 l n3 HL3.out rfl HR2.out x (rat k : Int) (sf x) w2.heap.size rfl rfl (by have := HL3.out; omega) hBs ?_)
                      | go_in)
                    intro g' cap' w4 hN4 hoth hb4
                    have HR4 : Hid (NowAt w.heap.size g' cap' (nowL tx sa sf (innTo tx sk (rat k : Int) (v k) (j + 1))) w4) := by rw [HNEW.out, if_neg (by omega)]; exact hideR hN4
                    have HO4 := hideR (HO2.out.of_block (hoth _ HO2.out.lt (NowAt.ne HR2.out HO2.out (by decide))))
                    have hb5 := hbw.trans hb4
                    have HL4 : Hid (n3 + 1 = (nowL tx sa sf (innTo tx sk (rat k : Int) (v k) (j + 1))).length) := by rw [HNEW.out, List.length_append, ← HL3.out]; exact hideR rfl
                    clear hN4 hoth hb4 HR2 HO2 hbw xc sc0 sc1 oat
                    go_wp2
                    go_roundw
                    case rel => exact ⟨j + 1, g', cap', n3 + 1, by omega, by go_num, rfl, HL4, HR4, HO4, hb5⟩
                    case measure => simp [intOf]; omega
              · obtain rfl : j = ni k := by omega
                go_wp2
                go_roundw
                case rel => exact ⟨k + 1, g3, cap3, n3, by omega, by go_num, rfl, by rw [HO.out]; exact HL3, by rw [HO.out]; exact HR3, hb3⟩
                case measure => simp [intOf]; omega
        · obtain rfl : k = nr := by omega
          obtain ⟨wE, hwE⟩ : ∃ x, x = wr := ⟨_, rfl⟩
          subst hwE
          go_upto_region 26 with fail
          obtain ⟨l, hl⟩ : ∃ l, l = nowL tx sa sf (outTo tx wrt rat ni v k) := ⟨_, rfl⟩
          obtain ⟨W, hW⟩ : ∃ W : Nat → Int → Int, W = fun x a => bestTo (so x) a (wn x) := ⟨_, rfl⟩
          have HLL := hideR hl
          have HWW := hideR hW
          have hn3 : n ≤ 10000000 := by
            have h1 := HL.out
            have h2 := out_ro_length tx wrt rat ni v k 1024 (fun i hi => (HI.out.rl i hi).2) k (Nat.le_refl _)
            rw [nowL_length] at h1
            omega
          rw [← hl] at HL HR
          clear hl hW
          go_loopw [127] (fun i wx => ∃ j : Nat, j ≤ n ∧ i = .int .i64 j ∧ Hid (NowAt w.heap.size g2 cap2 (midL W l j) wx) ∧ Below w.heap.size w wx) (fun i _ => n - (intOf i).toNat)
          case atStart => exact ⟨0, by omega, rfl, by rw [midL_zero]; exact HR, hb2⟩
          case round =>
            obtain ⟨j, hj, rfl, HRj, hbj⟩ := hrel
            by_cases hltj : j < n
            · have hll : j < l.length := by have := HL.out; omega
              obtain ⟨e, he⟩ : ∃ e, l[j]? = some e := ⟨_, List.getElem?_eq_getElem hll⟩
              have hem : e ∈ nowL tx sa sf (outTo tx wrt rat ni v k) := by rw [← HLL.out]; exact List.mem_of_getElem? he
              have hbd := now_bound (inv_out hnd wrt rat ni v k (fun i hi => (HI.out.rl i hi).1) k (Nat.le_refl _)) sa sf e hem
              have hx4 := now_item sa sf (fun y hy => by
                obtain ⟨q, hq⟩ := List.mem_iff_getElem?.1 hy
                exact (HI.out.tcell q y hq).2) (out_ro_lt tx wrt rat ni v k (fun i hi j hj => (HI.out.ic' i hi j hj).2) k (Nat.le_refl _)) e hem
              have hmid : (midL W l j)[j]? = some e := by rw [midL_get W l j hll]; exact he
              obtain ⟨q0, q1, q2⟩ := HRj.out.cells hmid
              have HSUC := hideR (midL_succ W l j e he)
              obtain ⟨x, a, f⟩ := e
              simp only at hbd hx4 q0 q1 q2
              have i1 : (j : Int) < (n : Int) := by omega
              have hgb := HRj.out.base
              by_cases ha : 0 ≤ a
              · have t1 : decide (0 ≤ a) = true := by simpa using ha
                have HF : Hid (midL W l (j + 1) = (midL W l j).set j (x, W x a, f)) := by rw [HSUC.out]; exact hideR (by simp only [fin1, ha, if_true])
                have HWA : Hid (∀ wx, Below w.heap.size w wx → Calls Ybad.prog 11 #[.pointer (some ⟨IB, x * 13, none⟩), .int .i64 a] wx fun e w' => e = .returned (.int .i64 (W x a)) ∧ Below wx.heap.size wx w') := by
                  refine hideR (fun wx hbx => (writeAfter_any (wa x) (wn x) (wcap x) (wb x) IB (x * 13) (so x) a wx (HI.out.wl x hx4) (HI.out.wp x hx4) (kept hbx (HI.out.it x hx4)) (fun k hk => kept hbx (HI.out.w0 x hx4 k hk)) (fun k hk => kept hbx (HI.out.w1 x hx4 k hk)) (fun k hk => kept hbx (HI.out.w2 x hx4 k hk)) (HI.out.sl x hx4) (HI.out.mono x hx4) (by omega) (by omega)).mono ?_)
                  rintro e w' ⟨q, rfl, hq, hlow, hat, hb'⟩
                  refine ⟨?_, hb'⟩
                  rw [HWW.out, ← first_is_best (so x) (so x) a (wn x) q (HI.out.sl x hx4) (fun i hi => ⟨i, hi, rfl⟩) (fun i hi => ⟨i, hi, rfl⟩) (HI.out.mono x hx4) hq hlow hat]
                go_upto_region 29 with fail
                have hbC : Below w.heap.size w (wr.alloc (.cells #[.int .i64 (x : Int), .int .i64 a, .bool f] 75)).drew := (hbj.alloc hbj.size _).drew
                have s1 : (wr.alloc (.cells #[.int .i64 (x : Int), .int .i64 a, .bool f] 75)).cell? ⟨S, 1, none⟩ = some (.slice (some ⟨IB, 0, none⟩) 4 4) := kept hbC HI.out.s1
                have e0 : (wr.alloc (.cells #[.int .i64 (x : Int), .int .i64 a, .bool f] 75)).cell? ⟨wr.heap.size, 0, none⟩ = some (.int .i64 (x : Int)) := by simp
                have e1 : (wr.alloc (.cells #[.int .i64 (x : Int), .int .i64 a, .bool f] 75)).cell? ⟨wr.heap.size, 1, none⟩ = some (.int .i64 a) := by simp
                have hS : S ≠ g2 := by have := World.block_lt_of_cell? w _ HI.out.s1; simp at this; omega
                have hC : wr.heap.size ≠ g2 := by omega
                have hS2 : g2 ≠ S := fun h => hS h.symm
                have hC2 : g2 ≠ wr.heap.size := fun h => hC h.symm
                have HRC := hideR (HRj.out.alloc (.cells #[.int .i64 (x : Int), .int .i64 a, .bool f] 75))
                have i4 : (x : Int) < 4 := by omega
                generalize hwC : (wr.alloc (.cells #[.int .i64 (x : Int), .int .i64 a, .bool f] 75)) = wC at *
                have s1d : wC.drew.cell? ⟨S, 1, none⟩ = some (.slice (some ⟨IB, 0, none⟩) 4 4) := by rw [World.cell?_drew]; exact s1
                have e0d : wC.drew.cell? ⟨wr.heap.size, 0, none⟩ = some (.int .i64 (x : Int)) := by rw [World.cell?_drew]; exact e0
                have e1d : wC.drew.cell? ⟨wr.heap.size, 1, none⟩ = some (.int .i64 a) := by rw [World.cell?_drew]; exact e1
                have HRD : Hid (NowAt w.heap.size g2 cap2 (midL W l j) wC.drew) := HRC
                have HALL : Hid (∀ w5, Below wC.drew.heap.size wC.drew w5 → w5.cell? ⟨S, 1, none⟩ = some (.slice (some ⟨IB, 0, none⟩) 4 4) ∧ w5.cell? ⟨wr.heap.size, 0, none⟩ = some (.int .i64 (x : Int)) ∧ w5.cell? ⟨wr.heap.size, 1, none⟩ = some (.int .i64 a) ∧ w5.cell? ⟨g2, j * 3 + 1, none⟩ = some (.int .i64 a) ∧ w5.frozen? ⟨g2, j * 3 + 1, none⟩ = false) :=
                  hideR (fun w5 hb5 => ⟨kept hb5 s1d, kept hb5 e0d, kept hb5 e1d, ((HRD.out.below hb5).cells hmid).2.1, (HRD.out.below hb5).frozen _⟩)
                go_region_held3 (fun w' => w'.cell? ⟨S, 1, none⟩ = some (.slice (some ⟨IB, 0, none⟩) 4 4) ∧ w'.cell? ⟨wr.heap.size, 0, none⟩ = some (.int .i64 (x : Int)) ∧ w'.cell? ⟨wr.heap.size, 1, none⟩ = some (.int .i64 a)) (go_keep)
                  ((go_at_call 11; refine (HWA.out _ hbC).mono ?_; rintro e w5 ⟨rfl, hb5⟩; obtain ⟨k1, k2, k3, k4, k5⟩ := HALL.out w5 hb5))
                have HR5 : Hid (NowAt w.heap.size g2 cap2 (midL W l (j + 1)) (w5.setCell ⟨g2, j * 3 + 1, none⟩ (.int .i64 (W x a)))) := by rw [HF.out]; exact hideR ((HRD.out.below hb5).set hmid (W x a))
                have hb6 : Below w.heap.size w (w5.setCell ⟨g2, j * 3 + 1, none⟩ (.int .i64 (W x a))) := (hbC.trans (hb5.mono hbC.size)).setCell hgb.1 _
                clear k1 k2 k3 k4 k5 s1d e0d e1d s1 e0 e1 HALL HWA HRD HRC
                go_wp2
                go_roundw
                case rel => exact ⟨j + 1, by omega, by go_num, HR5, hb6⟩
                case measure => simp [intOf]; omega
              · have t1 : decide (0 ≤ a) = false := by simpa using ha
                have HF : Hid (midL W l (j + 1) = midL W l j) := by
                  rw [HSUC.out]
                  simp only [fin1, ha, if_false]
                  exact hideR (set_self _ _ _ hmid)
                have HR4 := hideR (HRj.out.alloc (.cells #[.int .i64 (x : Int), .int .i64 a, .bool f] 75))
                have hb4 := hbj.alloc hbj.size (.cells #[.int .i64 (x : Int), .int .i64 a, .bool f] 75)
                go_wp2
                go_roundw
                case rel => exact ⟨j + 1, by omega, by go_num, by rw [HF.out]; exact HR4, hb4⟩
                case measure => simp [intOf]; omega
            · obtain rfl : j = n := by omega
              go_wp2
              go_ret
              have e := HL.out
              refine ⟨g2, cap2, ?_, ?_, hbj⟩
              · rw [← HLL.out, ← e]; rfl
              · rw [← HLL.out, ← HWW.out, ← midL_full, ← e]; exact HRj.out
end Go.Proofs.YbulkbhpqDoor
