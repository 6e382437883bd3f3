/- LawS2928AExact (3), its first part: the items, their writes sorted. -/
import Derived.Test.YbulkbhpqDoorLawA
import Derived.Test.YbulkbhpqDoorP2
import Derived.Test.YbulkbhpqDoorSort
import Derived.Deep.Cut
namespace Go.Proofs.YbulkbhpqDoor
open Go.RowKit Plain
set_option linter.unusedVariables false
set_option linter.unusedSimpArgs false
attribute [local go_sem] alloc_drewN setCell_drewN

theorem info42 : (Ybad.prog.info? 42).map (fun i => (i.zero, i.size, i.bytes)) = some (some (.agg #[.int .i64 0, .slice none 0 0, .bool false, .slice none 0 0, .int .i64 0, .int .i64 0, .slice none 0 0, .slice none 0 0, .slice none 0 0, .slice none 0 0, .slice none 0 0, .slice none 0 0, .int .i64 0]), 13, 232) := by kernel_rfl
theorem make42 (wx : World) : (Instr.makeSlice 30 (.int .i64 4) (.int .i64 4)).run Ybad.prog wx = .ok (.slice (some ⟨wx.heap.size, 0, none⟩) 4 4) (wx.alloc (.cells (madeCells #[.int .i64 0, .slice none 0 0, .bool false, .slice none 0 0, .int .i64 0, .int .i64 0, .slice none 0 0, .slice none 0 0, .slice none 0 0, .slice none 0 0, .slice none 0 0, .slice none 0 0, .int .i64 0] 52) 42)) := by
  obtain ⟨i, hi, hz⟩ := Option.map_eq_some_iff.1 info42
  simp only [Prod.mk.injEq] at hz
  obtain ⟨hz, hs, hby⟩ := hz
  have := run_make (P := Ybad.prog) wx 30 42 i _ Ybad.underlying30 hi hz .i64 .i64 4 4 (by omega) (by omega) (by rw [hby]; omega) (by omega)
  simpa [hs, Value.cells] using this
theorem ItemsTo.step {k : Nat} {tn : Nat → Nat} {tz : Nat → Nat → Nat} {wb : Nat → Nat} {IB WS : Nat} {w : World} (h : ItemsTo k tn tz wb IB w) (hW : w.rowIs WS 35 (tn k * 3) (wcell (soF (tz k) (tn k)))) :
    ItemsTo (k + 1) tn tz (fun q => if q = k then WS else wb q) IB (((((((((((((w.setCell ⟨IB, k * 13, none⟩ (.int .i64 0)).setCell ⟨IB, k * 13 + 1, none⟩ (.slice (some ⟨WS, 0, none⟩) (tn k) (tn k))).setCell ⟨IB, k * 13 + 2, none⟩ (.bool false)).setCell ⟨IB, k * 13 + 3, none⟩ (.slice none 0 0)).setCell ⟨IB, k * 13 + 4, none⟩ (.int .i64 0)).setCell ⟨IB, k * 13 + 5, none⟩ (.int .i64 0)).setCell ⟨IB, k * 13 + 6, none⟩ (.slice none 0 0)).setCell ⟨IB, k * 13 + 7, none⟩ (.slice none 0 0)).setCell ⟨IB, k * 13 + 8, none⟩ (.slice none 0 0)).setCell ⟨IB, k * 13 + 9, none⟩ (.slice none 0 0)).setCell ⟨IB, k * 13 + 10, none⟩ (.slice none 0 0)).setCell ⟨IB, k * 13 + 11, none⟩ (.slice none 0 0)).setCell ⟨IB, k * 13 + 12, none⟩ (.int .i64 0)) := by
  obtain ⟨f, hr, hq⟩ := h
  refine ⟨_, (((((((((((((hr.set (k * 13) _).set (k * 13 + 1) _).set (k * 13 + 2) _).set (k * 13 + 3) _).set (k * 13 + 4) _).set (k * 13 + 5) _).set (k * 13 + 6) _).set (k * 13 + 7) _).set (k * 13 + 8) _).set (k * 13 + 9) _).set (k * 13 + 10) _).set (k * 13 + 11) _).set (k * 13 + 12) _), fun q hk => ?_⟩
  have hk3 : ∀ {g : Nat → Value} {b m : Nat}, w.rowIs b 35 m g → (((((((((((((w.setCell ⟨IB, k * 13, none⟩ (.int .i64 0)).setCell ⟨IB, k * 13 + 1, none⟩ (.slice (some ⟨WS, 0, none⟩) (tn k) (tn k))).setCell ⟨IB, k * 13 + 2, none⟩ (.bool false)).setCell ⟨IB, k * 13 + 3, none⟩ (.slice none 0 0)).setCell ⟨IB, k * 13 + 4, none⟩ (.int .i64 0)).setCell ⟨IB, k * 13 + 5, none⟩ (.int .i64 0)).setCell ⟨IB, k * 13 + 6, none⟩ (.slice none 0 0)).setCell ⟨IB, k * 13 + 7, none⟩ (.slice none 0 0)).setCell ⟨IB, k * 13 + 8, none⟩ (.slice none 0 0)).setCell ⟨IB, k * 13 + 9, none⟩ (.slice none 0 0)).setCell ⟨IB, k * 13 + 10, none⟩ (.slice none 0 0)).setCell ⟨IB, k * 13 + 11, none⟩ (.slice none 0 0)).setCell ⟨IB, k * 13 + 12, none⟩ (.int .i64 0)).rowIs b 35 m g := fun hb =>
    have hne := rows_ne hb hr (by decide)
    (((((((((((((hb.setOther (a := ⟨IB, k * 13, none⟩) hne _).setOther (a := ⟨IB, k * 13 + 1, none⟩) hne _).setOther (a := ⟨IB, k * 13 + 2, none⟩) hne _).setOther (a := ⟨IB, k * 13 + 3, none⟩) hne _).setOther (a := ⟨IB, k * 13 + 4, none⟩) hne _).setOther (a := ⟨IB, k * 13 + 5, none⟩) hne _).setOther (a := ⟨IB, k * 13 + 6, none⟩) hne _).setOther (a := ⟨IB, k * 13 + 7, none⟩) hne _).setOther (a := ⟨IB, k * 13 + 8, none⟩) hne _).setOther (a := ⟨IB, k * 13 + 9, none⟩) hne _).setOther (a := ⟨IB, k * 13 + 10, none⟩) hne _).setOther (a := ⟨IB, k * 13 + 11, none⟩) hne _).setOther (a := ⟨IB, k * 13 + 12, none⟩) hne _)
  by_cases e : q = k
  · subst e
    simp only [if_true]
    refine ⟨?_, hk3 hW⟩
    repeat rw [if_neg (by omega)]
  · have := hq q (by omega)
    simp only [if_neg e]
    refine ⟨?_, hk3 this.2⟩
    repeat rw [if_neg (by omega)]
    exact this.1
/-- one item's writes up to j -/
def WsTo (j n : Nat) (s : Nat → Nat) (WS : Nat) (w : World) : Prop := ∃ f, w.rowIs WS 35 (n * 3) f ∧ ∀ q, q < j → f (q * 3) = .int .i64 0 ∧ f (q * 3 + 1) = .int .i64 (s q : Int) ∧ f (q * 3 + 2) = .int .i64 (-1)
theorem WsTo.step {k n : Nat} {s : Nat → Nat} {WS : Nat} {w : World} (h : WsTo k n s WS w) : WsTo (k + 1) n s WS (((w.setCell ⟨WS, k * 3, none⟩ (.int .i64 0)).setCell ⟨WS, k * 3 + 1, none⟩ (.int .i64 (s k : Int))).setCell ⟨WS, k * 3 + 2, none⟩ (.int .i64 (-1))) := by
  obtain ⟨f, hr, hq⟩ := h
  refine ⟨_, ((hr.set (k * 3) _).set (k * 3 + 1) _).set (k * 3 + 2) _, fun q hk => ?_⟩
  by_cases e : q = k
  · subst e
    refine ⟨?_, ?_, ?_⟩
    · rw [if_neg (by omega), if_neg (by omega), if_pos rfl]
    · rw [if_neg (by omega), if_pos rfl]
    · rw [if_pos rfl]
  · have := hq q (by omega)
    refine ⟨?_, ?_, ?_⟩
    · rw [if_neg (by omega), if_neg (by omega), if_neg (by omega)]; exact this.1
    · rw [if_neg (by omega), if_neg (by omega), if_neg (by omega)]; exact this.2.1
    · rw [if_neg (by omega), if_neg (by omega), if_neg (by omega)]; exact this.2.2
theorem WsTo.all {n : Nat} {s : Nat → Nat} {WS : Nat} {w : World} (h : WsTo n n s WS w) : w.rowIs WS 35 (n * 3) (wcell s) := by
  obtain ⟨f, hr, hq⟩ := h
  refine hr.congr (fun j hj => ?_)
  have := hq (j / 3) (by omega)
  unfold wcell
  by_cases e : j % 3 = 0
  · rw [if_pos e, ← this.1]; congr 1; omega
  · by_cases e2 : j % 3 = 1
    · rw [if_neg e, if_pos e2, ← this.2.1]; congr 1; omega
    · rw [if_neg e, if_neg e2, ← this.2.2]; congr 1; omega

set_option maxHeartbeats 8000000 in
set_option maxRecDepth 100000 in
theorem law_p1 {u2 u3 u4 u5 u6 u10 u11 u12 u13 u14 u15 u16 u17 u18 u19 u20 u21 u22 u23 u24 u25 u26 u27 u28 u29 u30 u31 u32 u33 u34 u35 u36 u37 u38 u39 u40 u41 u42 u43 u44 u45 u46 u47 u48 u49 u50 u51 u52 u53 u54 u55 u56 u57 u58 u59 u60 u61 u62 u63 u64 u65 u66 u67 u68 u69 u70 u71 u72 u73 u74 u75 u76 u77 u78 u79 u80 u81 u82 u83 u84 u85 u86 u87 u88 u89 u90 u91 u92 u93 u94 u95 u96 u97 u98 u99 u100 u101 u102 u103 u104 u105 u106 u107 u108 u109 u110 u111 u112 u113 u114 u115 u116 u117 u118 u119 u120 u121 u122 u123 u124 u125 u126 u127 u128 u129 u130 u131 u132 u133 u134 u135 u136 u137 u138 u139 u140 u141 u142 u143 u144 u145 u146 u147 u148 u149 u150 u151 u152 u153 u154 u155 u156 u157 u158 u159 u160 u161 u162 u163 u164 u165 u166 u167 u168 u169 u170 u171 u172 u173 u174 u175 u176 u177 u178 u179 u180 u181 u182 u183 u184 u185 u186 u187 u188 u189 u190 u191 u192 u193 u194 u195 u196 u197 u198 u199 u200 u201 u202 u203 u204 u205 u206 u207 u208 u209 u210 u211 u212 u213 u214 u215 u216 u217 u218 u219 u220 u221 u222 u223 u224 u225 u226 u227 u228 u229 u230 u231 u232 u233 u234 u235 u236 u237 u238 u239 u240 u241 u242 u243 u244 u245 u246 u247 u248 u249 u250 u251 u252 u253 u254 u255 u256 u257 u258 u259 u260 u261 u262 u263 u264 u265 u266 u267 u268 u269 u270 u271 u272 u273 u274 u275 u276 u277 u278 u279 u280 u281 u282 u283 u284 u285 u286 u287 u288 u289 u290 u291 u292 u293 u294 u295 u296 u297 u298 u299 u300 u301 u302 u303 u304 u305 u306 u307 u308 u309 u310 u311 u312 u313 u314 u315 u316 u317 u318 u319 u320 u321 u322 u323 u324 u325 u326 u327 u328 u329 u330 u331 u332 u333 u334 u335 u336 u337 u338 u339 u340 u341 u342 u343 u344 u345 u346 u347 u348 u349 u350 u351 u352 u353 u354 u355 u356 u357 u358 u359 u360 u361 u362 u363 u364 u365 u366 u367 : Value}
    (aw : Option Addr) (nw cw wbk wo : Nat) (ww : Nat → Nat) (ar : Option Addr) (nr cr rb ro : Nat) (wrt : Nat → Bool) (rat : Nat → Nat) (ia : Nat → Option Addr) (ni ic qb qo : Nat → Nat) (z : Nat → Nat → Nat)
    (ta : Nat → Option Addr) (tn tc tb to : Nat → Nat) (tz : Nat → Nat → Nat) (sa : Nat → Int) (sf : Nat → Bool) (w : World)
    (HI : Hid (CIn aw nw wbk wo ww ar nr rb ro wrt rat ia ni ic qb qo z ta tn tb to tz sa w)) (hnw : nw ≤ 1024) (hnr : nr ≤ 1024) (HNI : Hid (∀ i, i < nr → ni i ≤ 1024)) (HTN : Hid (∀ x, x < 4 → tn x ≤ 1024))
    (wA : World) (HBX : Hid (BoxAt ta tn tc sa sf w.heap.size wA)) (hbw : Below w.heap.size w wA)
    (K : Act → World → Prop) (hK : ∀ a w1, Code.wp Ybad.prog (dropSeq 5 (Ybad.f3.body.getD .skip)) (bodyPost Ybad.prog Ybad.f3 (fun e w' => e = .returned (.bool true) ∧ Below w.heap.size w w')) a w1 → K a w1) :
    Code.wp Ybad.prog (headSeq (dropSeq 4 (Ybad.f3.body.getD .skip))) (Exit.then K (bodyPost Ybad.prog Ybad.f3 (fun e w' => e = .returned (.bool true) ∧ Below w.heap.size w w'))) ⟨#[.slice aw nw cw, .slice ar nr cr, u2, u3, u4, u5, u6, .pointer (some ⟨w.heap.size, 0, none⟩), .pointer (some ⟨w.heap.size + 1, 0, none⟩), .pointer (some ⟨w.heap.size + 2, 0, none⟩), u10, u11, u12, u13, u14, u15, u16, u17, u18, u19, u20, u21, u22, u23, u24, u25, u26, u27, u28, u29, u30, u31, u32, u33, u34, u35, u36, u37, u38, u39, u40, u41, u42, u43, u44, u45, u46, u47, u48, u49, u50, u51, u52, u53, u54, u55, u56, u57, u58, u59, u60, u61, u62, u63, u64, u65, u66, u67, u68, u69, u70, u71, u72, u73, u74, u75, u76, u77, u78, u79, u80, u81, u82, u83, u84, u85, u86, u87, u88, u89, u90, u91, u92, u93, u94, u95, u96, u97, u98, u99, u100, u101, u102, u103, u104, u105, u106, u107, u108, u109, u110, u111, u112, u113, u114, u115, u116, u117, u118, u119, u120, u121, u122, u123, u124, u125, u126, u127, u128, u129, u130, u131, u132, u133, u134, u135, u136, u137, u138, u139, u140, u141, u142, u143, u144, u145, u146, u147, u148, u149, u150, u151, u152, u153, u154, u155, u156, u157, u158, u159, u160, u161, u162, u163, u164, u165, u166, u167, u168, u169, u170, u171, u172, u173, u174, u175, u176, u177, u178, u179, u180, u181, u182, u183, u184, u185, u186, u187, u188, u189, u190, u191, u192, u193, u194, u195, u196, u197, u198, u199, u200, u201, u202, u203, u204, u205, u206, u207, u208, u209, u210, u211, u212, u213, u214, u215, u216, u217, u218, u219, u220, u221, u222, u223, u224, u225, u226, u227, u228, u229, u230, u231, u232, u233, u234, u235, u236, u237, u238, u239, u240, u241, u242, u243, u244, u245, u246, u247, u248, u249, u250, u251, u252, u253, u254, u255, u256, u257, u258, u259, u260, u261, u262, u263, u264, u265, u266, u267, u268, u269, u270, u271, u272, u273, u274, u275, u276, u277, u278, u279, u280, u281, u282, u283, u284, u285, u286, u287, u288, u289, u290, u291, u292, u293, u294, u295, u296, u297, u298, u299, u300, u301, u302, u303, u304, u305, u306, u307, u308, u309, u310, u311, u312, u313, u314, u315, u316, u317, u318, u319, u320, u321, u322, u323, u324, u325, u326, u327, u328, u329, u330, u331, u332, u333, u334, u335, u336, u337, u338, u339, u340, u341, u342, u343, u344, u345, u346, u347, u348, u349, u350, u351, u352, u353, u354, u355, u356, u357, u358, u359, u360, u361, u362, u363, u364, u365, u366, u367], []⟩ wA := by
  conv => arg 2; whnf
  conv at hK => intro a w1; arg 1; arg 2; whnf
  have hmk := make42
  have hbB : Below wA.heap.size wA (wA.alloc (.cells (madeCells #[.int .i64 0, .slice none 0 0, .bool false, .slice none 0 0, .int .i64 0, .int .i64 0, .slice none 0 0, .slice none 0 0, .slice none 0 0, .slice none 0 0, .slice none 0 0, .slice none 0 0, .int .i64 0] 52) 42)) := (Below.refl _ _).alloc (Nat.le_refl _) _
  obtain ⟨f0, hR0⟩ := made_row wA #[.int .i64 0, .slice none 0 0, .bool false, .slice none 0 0, .int .i64 0, .int .i64 0, .slice none 0 0, .slice none 0 0, .slice none 0 0, .slice none 0 0, .slice none 0 0, .slice none 0 0, .int .i64 0] 52 42
  have HO0 : Hid (ItemsTo 0 tn tz (fun _ => 0) wA.heap.size (wA.alloc (.cells (madeCells #[.int .i64 0, .slice none 0 0, .bool false, .slice none 0 0, .int .i64 0, .int .i64 0, .slice none 0 0, .slice none 0 0, .slice none 0 0, .slice none 0 0, .slice none 0 0, .slice none 0 0, .int .i64 0] 52) 42))) := hideR ⟨f0, hR0, fun q hq => by omega⟩
  go_upto_region 16 with fail
  clear hmk hR0
  obtain ⟨IB, hIB⟩ : ∃ IB, IB = wA.heap.size := ⟨_, rfl⟩
  have HOE := hideR (show wA.heap.size ≤ IB by omega)
  have HO1 : Hid (ItemsTo 0 tn tz (fun _ => 0) IB (wA.alloc (.cells (madeCells #[.int .i64 0, .slice none 0 0, .bool false, .slice none 0 0, .int .i64 0, .int .i64 0, .slice none 0 0, .slice none 0 0, .slice none 0 0, .slice none 0 0, .slice none 0 0, .slice none 0 0, .int .i64 0] 52) 42))) := by rw [hIB]; exact HO0
  rw [← hIB]
  clear hIB HO0
  generalize (wA.alloc (.cells (madeCells #[.int .i64 0, .slice none 0 0, .bool false, .slice none 0 0, .int .i64 0, .int .i64 0, .slice none 0 0, .slice none 0 0, .slice none 0 0, .slice none 0 0, .slice none 0 0, .slice none 0 0, .int .i64 0] 52) 42)) = wB at *
  go_loopw [15] (fun i wx => ∃ (k : Nat) (wb : Nat → Nat), k ≤ 4 ∧ i = .int .i64 k ∧ Hid (ItemsTo k tn tz wb IB wx) ∧ Below wA.heap.size wA wx) (fun i _ => 4 - (intOf i).toNat)
  case atStart => exact ⟨0, _, by omega, rfl, HO1, hbB⟩
  case round =>
    obtain ⟨k, wb, hk, rfl, HO, hb⟩ := hrel
    clear HO1 hbB
    by_cases hlt : k < 4
    · have i1 : (k : Int) < 4 := by omega
      have htk := HTN.out k hlt
      obtain ⟨w0, hw0⟩ : ∃ x, x = wr := ⟨_, rfl⟩
      subst hw0
      obtain ⟨A, hA⟩ : ∃ A, A = ta k := ⟨_, rfl⟩
      have cw : w0.cell? ⟨w.heap.size, k, none⟩ = some (.slice A (tn k) (tc k)) := by rw [hA]; exact kept hb (HBX.out.t.cell hlt)
      have HA := hideR hA
      clear hA
      have hba : ∀ o, Below w0.heap.size w0 (w0.alloc o) := fun o => (Below.refl w0.heap.size w0).alloc (Nat.le_refl _) o
      have cwa : ∀ o, (w0.alloc o).cell? ⟨w.heap.size, k, none⟩ = some (.slice A (tn k) (tc k)) := fun o => kept (hba o) cw
      have hmk := run_make_row' (P := Ybad.prog) 31 3 (.int .i64 0) 8 Ybad.underlying31 info3 rfl .i64 .i64 (tn k) (by omega) (by omega)
      have HR0 := hideR (World.rowIs_made w0 (.int .i64 0) (tn k) 3)
      have hb1 := hba (.cells (madeCells #[.int .i64 0] (tn k)) 3)
      go_upto_region 20 with fail
      clear hmk cwa hba cw
      obtain ⟨AT, hAT⟩ : ∃ AT, AT = w0.heap.size := ⟨_, rfl⟩
      have HAT := hideR hAT
      rw [← hAT] at HR0 ⊢
      clear hAT
      generalize (w0.alloc (.cells (madeCells #[.int .i64 0] (tn k)) 3)) = w1 at *
      go_loopw [93] (fun i wx => ∃ j : Nat, j ≤ tn k ∧ i = .int .i64 j ∧ Hid (wx.rowIs AT 3 (tn k) (fun q => if q < j then .int .i64 (tz k q : Int) else .int .i64 0)) ∧ Below w0.heap.size w0 wx) (fun i _ => tn k - (intOf i).toNat)
      case atStart => exact ⟨0, by omega, rfl, hideR (HR0.out.congr (fun j _ => by simp)), hb1⟩
      case round =>
        obtain ⟨j, hj, rfl, HR, hb2⟩ := hrel
        clear HR0 hb1
        by_cases hltj : j < tn k
        · obtain rfl : A = some ⟨tb k, to k, none⟩ := by rw [HA.out]; exact HI.out.tp k hlt (by omega)
          have hbwx : Below w.heap.size w wr := hbw.trans ((hb.trans (hb2.mono hb.size)).mono hbw.size)
          obtain ⟨cj0, hz5⟩ := HI.out.tcell k hlt j hltj
          have cj := kept hbwx cj0
          have i2 : (j : Int) < (tn k : Int) := by omega
          have rc := HR.out.cell hltj
          have rf := HR.out.frozen j
          have HR2 := hideR (row_fill (f := fun q => .int .i64 (tz k q : Int)) HR.out (v := .int .i64 (tz k j : Int)) rfl)
          have hb3 : Below w0.heap.size w0 (wr.setCell ⟨AT, j, none⟩ (.int .i64 (tz k j : Int))) := hb2.setCell (by show w0.heap.size ≤ AT; rw [HAT.out]; exact Nat.le_refl _) _
          clear cj0 hbwx
          go_wp2
          go_roundw
          case rel => exact ⟨j + 1, by omega, by go_num, HR2, hb3⟩
          case measure => simp [intOf]; omega
        · obtain rfl : j = tn k := by omega
          have HRk : Hid (wr.rowIs AT 3 (tn k) (fun q => .int .i64 (tz k q : Int))) := hideR (HR.out.congr (fun q hq => by simp [hq]))
          have HS := hideR (sort_any AT (tn k) (tn k) (tz k) wr HRk.out htk)
          have hmk := make35 (tn k) htk
          clear HR
          go_upto_region 27 with (go_at_call 4; refine HS.out.mono ?_; rintro e w2 ⟨rfl, hrow, hbs⟩)
          have hbw2 : Below w0.heap.size w0 w2 := hb2.trans (hbs.mono (by rw [HAT.out]; exact Nat.le_refl _))
          have HRS := hideR hrow
          clear hmk HS hrow hbs HRk hb2
          have HO2 := hideR (HO.out.below hbw2)
          have hb4 := hb.trans (hbw2.mono hb.size)
          clear HO hb hbw2
          have hb5 : Below w2.heap.size w2 (w2.alloc (.cells (madeCells #[.int .i64 0, .int .i64 0, .int .i64 0] (tn k * 3)) 35)) := (Below.refl _ _).alloc (Nat.le_refl _) _
          obtain ⟨f1, hR1⟩ := made_row w2 #[.int .i64 0, .int .i64 0, .int .i64 0] (tn k * 3) 35
          obtain ⟨WS, hWS⟩ : ∃ WS, WS = w2.heap.size := ⟨_, rfl⟩
          have HWE := hideR hWS
          rw [← hWS] at hR1 ⊢
          clear hWS
          have HW1 : Hid (WsTo 0 (tn k) (soF (tz k) (tn k)) WS (w2.alloc (.cells (madeCells #[.int .i64 0, .int .i64 0, .int .i64 0] (tn k * 3)) 35))) := hideR ⟨f1, hR1, fun q hq => by omega⟩
          clear hR1
          generalize (w2.alloc (.cells (madeCells #[.int .i64 0, .int .i64 0, .int .i64 0] (tn k * 3)) 35)) = w3 at *
          clear wr
          go_loopw [111] (fun i wx => ∃ j : Nat, j ≤ tn k ∧ i = .int .i64 j ∧ Hid (WsTo j (tn k) (soF (tz k) (tn k)) WS wx) ∧ Below w2.heap.size w2 wx) (fun i _ => tn k - (intOf i).toNat)
          case atStart => exact ⟨0, by omega, rfl, HW1, hb5⟩
          case round =>
            obtain ⟨j, hj, rfl, HW, hb6⟩ := hrel
            clear HW1 hb5
            by_cases hltj : j < tn k
            · have cj : wr.cell? ⟨AT, j, none⟩ = some (.int .i64 (soF (tz k) (tn k) j : Int)) := kept hb6 (HRS.out.cell hltj)
              have i2 : (j : Int) < (tn k : Int) := by omega
              obtain ⟨f, hf, _⟩ := HW.out
              have e0 := hf.cell (i := j * 3) (by omega)
              have e1 := hf.cell (i := j * 3 + 1) (by omega)
              have e2 := hf.cell (i := j * 3 + 2) (by omega)
              have z0 := hf.frozen (j * 3)
              have z1 := hf.frozen (j * 3 + 1)
              have z2 := hf.frozen (j * 3 + 2)
              have HW2 := hideR HW.out.step
              have hWE : w2.heap.size ≤ WS := by rw [HWE.out]; exact Nat.le_refl _
              have hb7 : Below w2.heap.size w2 (((wr.setCell ⟨WS, j * 3, none⟩ (.int .i64 0)).setCell ⟨WS, j * 3 + 1, none⟩ (.int .i64 (soF (tz k) (tn k) j : Int))).setCell ⟨WS, j * 3 + 2, none⟩ (.int .i64 (-1))) := ((hb6.setCell hWE _).setCell hWE _).setCell hWE _
              clear hf hWE
              go_wp2
              go_roundw
              case rel => exact ⟨j + 1, by omega, by go_num, HW2, hb7⟩
              case measure => simp [intOf]; omega
            · obtain rfl : j = tn k := by omega
              have HWk := hideR HW.out.all
              have HOk := hideR (HO2.out.below hb6)
              have hbx := hb4.trans (hb6.mono hb4.size)
              obtain ⟨f, hf, _⟩ := HOk.out
              have e0 := hf.cell (i := k * 13) (by omega)
              have z0 := hf.frozen (k * 13)
              have e1 := hf.cell (i := k * 13 + 1) (by omega)
              have z1 := hf.frozen (k * 13 + 1)
              have e2 := hf.cell (i := k * 13 + 2) (by omega)
              have z2 := hf.frozen (k * 13 + 2)
              have e3 := hf.cell (i := k * 13 + 3) (by omega)
              have z3 := hf.frozen (k * 13 + 3)
              have e4 := hf.cell (i := k * 13 + 4) (by omega)
              have z4 := hf.frozen (k * 13 + 4)
              have e5 := hf.cell (i := k * 13 + 5) (by omega)
              have z5 := hf.frozen (k * 13 + 5)
              have e6 := hf.cell (i := k * 13 + 6) (by omega)
              have z6 := hf.frozen (k * 13 + 6)
              have e7 := hf.cell (i := k * 13 + 7) (by omega)
              have z7 := hf.frozen (k * 13 + 7)
              have e8 := hf.cell (i := k * 13 + 8) (by omega)
              have z8 := hf.frozen (k * 13 + 8)
              have e9 := hf.cell (i := k * 13 + 9) (by omega)
              have z9 := hf.frozen (k * 13 + 9)
              have e10 := hf.cell (i := k * 13 + 10) (by omega)
              have z10 := hf.frozen (k * 13 + 10)
              have e11 := hf.cell (i := k * 13 + 11) (by omega)
              have z11 := hf.frozen (k * 13 + 11)
              have e12 := hf.cell (i := k * 13 + 12) (by omega)
              have z12 := hf.frozen (k * 13 + 12)
              have HO3 := hideR (HOk.out.step HWk.out)
              have hb8 : Below wA.heap.size wA (((((((((((((wr.setCell ⟨IB, k * 13, none⟩ (.int .i64 0)).setCell ⟨IB, k * 13 + 1, none⟩ (.slice (some ⟨WS, 0, none⟩) (tn k) (tn k))).setCell ⟨IB, k * 13 + 2, none⟩ (.bool false)).setCell ⟨IB, k * 13 + 3, none⟩ (.slice none 0 0)).setCell ⟨IB, k * 13 + 4, none⟩ (.int .i64 0)).setCell ⟨IB, k * 13 + 5, none⟩ (.int .i64 0)).setCell ⟨IB, k * 13 + 6, none⟩ (.slice none 0 0)).setCell ⟨IB, k * 13 + 7, none⟩ (.slice none 0 0)).setCell ⟨IB, k * 13 + 8, none⟩ (.slice none 0 0)).setCell ⟨IB, k * 13 + 9, none⟩ (.slice none 0 0)).setCell ⟨IB, k * 13 + 10, none⟩ (.slice none 0 0)).setCell ⟨IB, k * 13 + 11, none⟩ (.slice none 0 0)).setCell ⟨IB, k * 13 + 12, none⟩ (.int .i64 0)) := (((((((((((((hbx.setCell HOE.out _).setCell HOE.out _).setCell HOE.out _).setCell HOE.out _).setCell HOE.out _).setCell HOE.out _).setCell HOE.out _).setCell HOE.out _).setCell HOE.out _).setCell HOE.out _).setCell HOE.out _).setCell HOE.out _).setCell HOE.out _)
              clear hf HW
              go_wp2
              go_roundw
              case rel => exact ⟨k + 1, _, by omega, by go_num, HO3, hb8⟩
              case measure => simp [intOf]; omega
    · obtain rfl : k = 4 := by omega
      go_upto_region 32 with fail
      exact law_p2 aw nw cw wbk wo ww ar nr cr rb ro wrt rat ia ni ic qb qo z ta tn tc tb to tz sa sf w HI hnw hnr HNI HTN wr (hideR (HBX.out.below hb)) (hbw.trans (hb.mono hbw.size)) IB wb (hideR HO.out.all) _ (by assumption)
end Go.Proofs.YbulkbhpqDoor
