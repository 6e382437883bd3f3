/- LawS2928AExact (3), its third part: the standings. -/
import Derived.Test.YbulkbhpqDoorLawA
import Derived.Test.YbulkbhpqDoorP4
import Derived.Deep.Cut
namespace Go.Proofs.YbulkbhpqDoor
open Go.RowKit Plain
set_option linter.unusedVariables false
set_option linter.unusedSimpArgs false
attribute [local go_sem] alloc_drewN setCell_drewN

theorem make45 (wx : World) : (Instr.makeSlice 43 (.int .i64 4) (.int .i64 4)).run Ybad.prog wx = .ok (.slice (some ⟨wx.heap.size, 0, none⟩) 4 4) (wx.alloc (.cells (madeCells #[.int .i64 0, .bool false] 8) 45)) := by
  obtain ⟨i, hi, hz⟩ := Option.map_eq_some_iff.1 info45
  simp only [Prod.mk.injEq] at hz
  obtain ⟨hz, hs, hby⟩ := hz
  have := run_make (P := Ybad.prog) wx 43 45 i _ Ybad.underlying43 hi hz .i64 .i64 4 4 (by omega) (by omega) (by rw [hby]; omega) (by omega)
  simpa [hs, Value.cells] using this
def StTo (k : Nat) (sa : Nat → Int) (sf : Nat → Bool) (ST : Nat) (w : World) : Prop := ∃ f, w.rowIs ST 45 8 f ∧ ∀ q, q < k → f (q * 2) = .int .i64 (sa q) ∧ f (q * 2 + 1) = .bool (sf q)
theorem StTo.step {k : Nat} {sa : Nat → Int} {sf : Nat → Bool} {ST : Nat} {w : World} (h : StTo k sa sf ST w) : StTo (k + 1) sa sf ST ((w.setCell ⟨ST, k * 2, none⟩ (.int .i64 (sa k))).setCell ⟨ST, k * 2 + 1, none⟩ (.bool (sf k))) := by
  obtain ⟨f, hr, hq⟩ := h
  refine ⟨_, (hr.set (k * 2) _).set (k * 2 + 1) _, fun q hk => ?_⟩
  by_cases e : q = k
  · subst e
    refine ⟨?_, ?_⟩
    · rw [if_neg (by omega), if_pos rfl]
    · rw [if_pos rfl]
  · have := hq q (by omega)
    refine ⟨?_, ?_⟩
    · rw [if_neg (by omega), if_neg (by omega)]; exact this.1
    · rw [if_neg (by omega), if_neg (by omega)]; exact this.2
theorem StTo.all {sa : Nat → Int} {sf : Nat → Bool} {ST : Nat} {w : World} (h : StTo 4 sa sf ST w) : StAt sa sf ST w := by
  obtain ⟨f, hr, hq⟩ := h
  refine hr.congr (fun j hj => ?_)
  have := hq (j / 2) (by omega)
  by_cases e : j % 2 = 0
  · rw [if_pos e, ← this.1]; congr 1; omega
  · rw [if_neg e, ← this.2]; congr 1; omega

set_option maxHeartbeats 8000000 in
set_option maxRecDepth 100000 in
theorem law_p3 {u0 u2 u3 u4 u5 u6 u10 u11 u12 u13 u15 u16 u17 u18 u19 u20 u21 u24 u25 u26 u27 u28 u29 u30 u31 u32 u33 u34 u35 u36 u37 u38 u39 u40 u41 u42 u43 u44 u45 u46 u47 u48 u49 u50 u51 u52 u53 u54 u55 u56 u57 u58 u59 u60 u61 u62 u63 u64 u65 u66 u67 u68 u69 u70 u71 u72 u73 u74 u75 u76 u77 u78 u79 u80 u81 u82 u83 u84 u85 u86 u87 u88 u89 u90 u91 u92 u93 u94 u95 u96 u97 u98 u99 u100 u101 u102 u103 u104 u105 u106 u107 u108 u109 u110 u111 u112 u113 u114 u115 u116 u117 u118 u119 u120 u121 u122 u123 u124 u125 u126 u127 u128 u129 u130 u131 u132 u133 u134 u135 u136 u137 u138 u139 u140 u141 u142 u143 u144 u145 u146 u147 u148 u149 u150 u151 u152 u153 u154 u155 u156 u157 u158 u159 u160 u161 u162 u163 u164 u165 u166 u167 u168 u169 u170 u171 u172 u173 u174 u175 u176 u177 u178 u179 u180 u181 u182 u183 u184 u185 u186 u187 u188 u189 u190 u191 u192 u193 u194 u195 u196 u197 u198 u199 u200 u201 u202 u203 u204 u205 u206 u207 u208 u209 u210 u211 u212 u213 u214 u215 u216 u217 u218 u219 u220 u221 u222 u223 u224 u225 u226 u227 u228 u229 u230 u231 u232 u233 u234 u235 u236 u237 u238 u239 u240 u241 u242 u243 u244 u245 u246 u247 u248 u249 u250 u251 u252 u253 u254 u255 u256 u257 u258 u259 u260 u261 u262 u263 u264 u265 u266 u267 u268 u269 u270 u271 u272 u273 u274 u275 u276 u277 u278 u279 u280 u281 u282 u283 u284 u285 u286 u287 u288 u289 u290 u291 u292 u293 u294 u295 u296 u297 u298 u299 u300 u301 u302 u303 u304 u305 u306 u307 u308 u309 u310 u311 u312 u313 u314 u315 u316 u317 u318 u319 u320 u321 u322 u323 u324 u325 u326 u327 u328 u329 u330 u331 u332 u333 u334 u335 u336 u337 u338 u339 u340 u341 u342 u343 u344 u345 u346 u347 u348 u349 u350 u351 u352 u353 u354 u355 u356 u357 u358 u359 u360 u361 u362 u363 u364 u365 u366 u367 : Value}
    (aw : Option Addr) (nw cw wbk wo : Nat) (ww : Nat → Nat) (ar : Option Addr) (nr cr rb ro : Nat) (wrt : Nat → Bool) (rat : Nat → Nat) (ia : Nat → Option Addr) (ni ic qb qo : Nat → Nat) (z : Nat → Nat → Nat)
    (ta : Nat → Option Addr) (tn tc tb to : Nat → Nat) (tz : Nat → Nat → Nat) (sa : Nat → Int) (sf : Nat → Bool) (w : World)
    (HI : Hid (CIn aw nw wbk wo ww ar nr rb ro wrt rat ia ni ic qb qo z ta tn tb to tz sa w)) (hnw : nw ≤ 1024) (hnr : nr ≤ 1024) (HNI : Hid (∀ i, i < nr → ni i ≤ 1024)) (HTN : Hid (∀ x, x < 4 → tn x ≤ 1024))
    (wA : World) (HBX : Hid (BoxAt ta tn tc sa sf w.heap.size wA)) (hbw : Below w.heap.size w wA)
    (tx : List Nat) (tv : Option Addr) (tcp IW B1 : Nat) (HT : Hid (IntsAt B1 (.slice tv tx.length tcp) tx wA)) (HIW : Hid (wA.rowIs IW 27 4 (fun x => .bool (decide (x ∈ tx))))) (HX1 : Hid (∀ y, y ∈ tx → y < 4)) (hnd : tx.Nodup) (htl : tx.length ≤ 4)
    (IB : Nat) (wb : Nat → Nat) (HIT : Hid (ItemsAt tn tz wb IB wA))
    (K : Act → World → Prop) (hK : ∀ a w1, Code.wp Ybad.prog (dropSeq 10 (Ybad.f3.body.getD .skip)) (bodyPost Ybad.prog Ybad.f3 (fun e w' => e = .returned (.bool true) ∧ Below w.heap.size w w')) a w1 → K a w1) :
    Code.wp Ybad.prog (headSeq (dropSeq 9 (Ybad.f3.body.getD .skip))) (Exit.then K (bodyPost Ybad.prog Ybad.f3 (fun e w' => e = .returned (.bool true) ∧ Below w.heap.size w w'))) ⟨#[u0, .slice ar nr cr, u2, u3, u4, u5, u6, .pointer (some ⟨w.heap.size, 0, none⟩), .pointer (some ⟨w.heap.size + 1, 0, none⟩), .pointer (some ⟨w.heap.size + 2, 0, none⟩), u10, u11, u12, u13, .slice (some ⟨IB, 0, none⟩) 4 4, u15, u16, u17, u18, u19, u20, u21, .slice tv tx.length tcp, .pointer (some ⟨IW, 0, none⟩), u24, u25, u26, u27, u28, u29, u30, u31, u32, u33, u34, u35, u36, u37, u38, u39, u40, u41, u42, u43, u44, u45, u46, u47, u48, u49, u50, u51, u52, u53, u54, u55, u56, u57, u58, u59, u60, u61, u62, u63, u64, u65, u66, u67, u68, u69, u70, u71, u72, u73, u74, u75, u76, u77, u78, u79, u80, u81, u82, u83, u84, u85, u86, u87, u88, u89, u90, u91, u92, u93, u94, u95, u96, u97, u98, u99, u100, u101, u102, u103, u104, u105, u106, u107, u108, u109, u110, u111, u112, u113, u114, u115, u116, u117, u118, u119, u120, u121, u122, u123, u124, u125, u126, u127, u128, u129, u130, u131, u132, u133, u134, u135, u136, u137, u138, u139, u140, u141, u142, u143, u144, u145, u146, u147, u148, u149, u150, u151, u152, u153, u154, u155, u156, u157, u158, u159, u160, u161, u162, u163, u164, u165, u166, u167, u168, u169, u170, u171, u172, u173, u174, u175, u176, u177, u178, u179, u180, u181, u182, u183, u184, u185, u186, u187, u188, u189, u190, u191, u192, u193, u194, u195, u196, u197, u198, u199, u200, u201, u202, u203, u204, u205, u206, u207, u208, u209, u210, u211, u212, u213, u214, u215, u216, u217, u218, u219, u220, u221, u222, u223, u224, u225, u226, u227, u228, u229, u230, u231, u232, u233, u234, u235, u236, u237, u238, u239, u240, u241, u242, u243, u244, u245, u246, u247, u248, u249, u250, u251, u252, u253, u254, u255, u256, u257, u258, u259, u260, u261, u262, u263, u264, u265, u266, u267, u268, u269, u270, u271, u272, u273, u274, u275, u276, u277, u278, u279, u280, u281, u282, u283, u284, u285, u286, u287, u288, u289, u290, u291, u292, u293, u294, u295, u296, u297, u298, u299, u300, u301, u302, u303, u304, u305, u306, u307, u308, u309, u310, u311, u312, u313, u314, u315, u316, u317, u318, u319, u320, u321, u322, u323, u324, u325, u326, u327, u328, u329, u330, u331, u332, u333, u334, u335, u336, u337, u338, u339, u340, u341, u342, u343, u344, u345, u346, u347, u348, u349, u350, u351, u352, u353, u354, u355, u356, u357, u358, u359, u360, u361, u362, u363, u364, u365, u366, u367], []⟩ wA := by
  conv => arg 2; whnf
  conv at hK => intro a w1; arg 1; arg 2; whnf
  have HND := hideR hnd
  have HTL := hideR htl
  clear hnd htl
  have hmk := make45
  have hbB : Below wA.heap.size wA (wA.alloc (.cells (madeCells #[.int .i64 0, .bool false] 8) 45)) := (Below.refl _ _).alloc (Nat.le_refl _) _
  obtain ⟨f0, hR0⟩ := made_row wA #[.int .i64 0, .bool false] 8 45
  have HO0 : Hid (StTo 0 sa sf wA.heap.size (wA.alloc (.cells (madeCells #[.int .i64 0, .bool false] 8) 45))) := hideR ⟨f0, hR0, fun q hq => by omega⟩
  go_upto_region 44 with fail
  clear hmk hR0
  obtain ⟨ST, hST⟩ : ∃ ST, ST = wA.heap.size := ⟨_, rfl⟩
  have HOE := hideR (show wA.heap.size ≤ ST by omega)
  have HO1 : Hid (StTo 0 sa sf ST (wA.alloc (.cells (madeCells #[.int .i64 0, .bool false] 8) 45))) := by rw [hST]; exact HO0
  rw [← hST]
  clear hST HO0
  generalize (wA.alloc (.cells (madeCells #[.int .i64 0, .bool false] 8) 45)) = wB at *
  go_loopw [28] (fun i wx => ∃ k : Nat, k ≤ 4 ∧ i = .int .i64 k ∧ Hid (StTo k sa sf ST wx) ∧ Below wA.heap.size wA wx) (fun i _ => 4 - (intOf i).toNat)
  case atStart => exact ⟨0, by omega, rfl, HO1, hbB⟩
  case round =>
    obtain ⟨k, hk, rfl, HO, hb⟩ := hrel
    clear HO1 hbB
    by_cases hlt : k < 4
    · have i1 : (k : Int) < 4 := by omega
      have c2 : wr.cell? ⟨w.heap.size + 1, k, none⟩ = some (.int .i16 (sa k)) := kept hb (HBX.out.a.cell hlt)
      have c3 : wr.cell? ⟨w.heap.size + 2, k, none⟩ = some (.bool (sf k)) := kept hb (HBX.out.f.cell hlt)
      have hsb := HI.out.sb k hlt
      have hs1 := hsb.1
      have hs2 := hsb.2
      obtain ⟨f, hf, _⟩ := HO.out
      have e0 := hf.cell (i := k * 2) (by omega)
      have e1 := hf.cell (i := k * 2 + 1) (by omega)
      have z0 := hf.frozen (k * 2)
      have z1 := hf.frozen (k * 2 + 1)
      have hO2 := HO.out.step
      have HO2 := hideR hO2
      have hb4 : Below wA.heap.size wA ((wr.setCell ⟨ST, k * 2, none⟩ (.int .i64 (sa k))).setCell ⟨ST, k * 2 + 1, none⟩ (.bool (sf k))) := (hb.setCell HOE.out _).setCell HOE.out _
      have hn1 : w.heap.size + 1 ≠ ST := by have := HOE.out; have := HBX.out.a.lt; omega
      have hn2 : w.heap.size + 2 ≠ ST := by have := HOE.out; have := HBX.out.f.lt; omega
      have hn3 := hn1.symm
      have hn4 := hn2.symm
      clear hf hsb hO2
      go_wp2
      go_region
      all_goals (go_wp2; go_roundw)
      case rel => exact ⟨k + 1, by omega, by go_num, HO2, below_drewN hb4 _⟩
      case measure => simp [intOf]; omega
    · obtain rfl : k = 4 := by omega
      go_upto_region 47 with fail
      exact law_p4 aw nw cw wbk wo ww ar nr cr rb ro wrt rat ia ni ic qb qo z ta tn tc tb to tz sa sf w HI hnw hnr HNI HTN ST wr (hideR (HBX.out.below hb)) (hideR HO.out.all) (hbw.trans (hb.mono hbw.size)) tx tv tcp IW B1 (hideR (HT.out.below hb)) (hideR (rowIs_below HIW.out hb)) HX1 HND.out HTL.out IB wb (hideR (HIT.out.below hb)) _ (by assumption)
end Go.Proofs.YbulkbhpqDoor
