/- LawS2928CRuns (4), its fourth part: the structures, and the call. -/
import Derived.Test.YbulkbhpqCRunsA
import Derived.Test.YbulkbhpqCRunsP6
import Derived.Deep.Cut
namespace Go.Proofs.Ybulkbhpq
open Go.RowKit
set_option linter.unusedVariables false
set_option linter.unusedSimpArgs false
attribute [local go_sem] alloc_drewN setCell_drewN

set_option maxHeartbeats 8000000 in
set_option maxRecDepth 100000 in
theorem cruns_p5 {u0 u2 u3 u9 u10 u11 u12 u13 u14 u15 u18 u21 u26 u27 u28 u30 u31 u32 u33 u34 u35 u36 u37 u38 u39 u40 u41 u42 u43 u44 u45 u46 u47 u48 u49 u50 u51 u52 u53 u54 u55 u56 u57 u58 u59 u60 u61 u62 u63 u64 u65 u66 u67 u68 u69 u70 u71 u72 u73 u74 u75 u76 u77 u78 u79 u80 u81 u82 u83 u84 u85 u86 u87 u88 u89 u90 u91 u92 u93 u94 u95 u96 u97 u98 u99 u100 u101 u102 u103 u104 u105 u106 u107 u108 u109 u110 u111 u112 u113 u114 u115 u116 u117 u118 u119 u120 u121 u122 u123 u124 u125 u126 u127 u128 u129 u130 u131 u132 u133 u134 u135 u136 u137 u138 u139 u140 u141 u142 u143 u144 u145 u146 u147 u148 u149 u150 u151 u152 u153 u154 u155 u156 u157 u158 u159 u160 u161 u162 u163 u164 u165 u166 u167 u168 u169 u170 u171 u172 u173 u174 u175 u176 u177 u178 u179 u180 u181 u182 u183 u184 u185 u186 u187 u188 u189 u190 u191 u192 u193 u194 u195 u196 u197 u198 u199 u200 u201 u202 u203 u204 u205 u206 u207 u208 u209 u210 u211 u212 u213 u214 u215 u216 u217 u218 u219 u220 u221 u222 u223 u224 u225 u226 u227 u228 u229 u230 u231 u232 u233 u234 u235 u236 u237 u238 u239 u240 u241 u242 u243 u244 u245 u246 u247 u248 u249 u250 u251 u252 u253 u254 u255 u256 u257 u258 u259 u260 u261 u262 u263 u264 u265 u266 u267 u268 u269 u270 u271 u272 u273 u274 u275 u276 u277 u278 u279 u280 u281 u282 u283 u284 u285 u286 u287 u288 u289 u290 u291 u292 u293 u294 u295 u296 u297 u298 u299 u300 u301 u302 u303 u304 u305 u306 u307 u308 u309 u310 u311 u312 u313 u314 u315 u316 u317 u318 u319 u320 u321 u322 u323 u324 u325 u326 u327 u328 u329 u330 u331 u332 u333 u334 u335 u336 u337 u338 u339 u340 u341 u342 u343 u344 u345 u346 u347 u348 u349 u350 u351 u352 u353 u354 u355 u356 u357 u358 u359 u360 u361 u362 u363 u364 u365 u366 u367 u368 u369 u370 u371 u372 u373 u374 u375 u376 u377 u378 u379 u380 u381 u382 u383 u384 u385 u386 u387 u388 u389 u390 u391 u392 u393 u394 u395 u396 u397 u398 u399 u400 : Value}
    (ap : Option Addr) (nc cpc pb po : Nat) (A : Nat → Option Addr) (M C qb qo : Nat → Nat) (Z : Nat → Nat → Nat) (al : Option Addr) (nl cl lb lo : Nat) (lz : Nat → Int) (ae : Option Addr) (ne ce eb eo : Nat) (ez : Nat → Int)
    (ar : Option Addr) (nr cr rb ro : Nat) (rz : Nat → Int) (aq : Option Addr) (np cq qqb qqo : Nat) (pz : Nat → Int) (above : Int) (wrd : Bool) (w : World) (W : Nat)
    (HI : Hid (CIn ap nc pb po A M C qb qo Z al nl lb lo lz ae ne eb eo ez ar nr rb ro rz aq np qqb qqo pz w))
    (hnc : nc ≤ 300) (hnr : nr ≤ 4096) (hnp : np ≤ 4096) (hnl : nl ≤ 9223372036854775807) (hne : ne ≤ 9223372036854775807) (hW1 : 1 ≤ W) (hW2 : nc ≤ W) (hW3 : W ≤ 300) (HMc : Hid (∀ j, j < nc → M j ≤ 300))
    (n : Nat) (HN : Hid (n = Plan.st (Ln M Z) nc)) (hst : n ≤ 400000) (hst1 : 1 ≤ n) (RK RC RD LB EB RR : Nat) (RB : Nat → Nat) (av : Option Addr) (lv cv : Nat) (wA : World) (HP : Hid (Ph3 w.heap.size nc M Z W n nr rz (La nl lz) (Ea ne ez nc (Ln M Z)) RK RC RD LB EB wA))
    (HBX : Hid (BoxAt ap al ae ar aq nc cpc nl cl ne ce nr cr np cq above wrd w.heap.size wA)) (hbw : Below w.heap.size w wA) (HQ : Hid (Ph4 RR nc M Z RB (.slice av lv cv) nc wA)) (HV : Hid (nc = 0 → (Value.slice av lv cv) = .slice none 0 0)) (RI : Nat) (HRI : Hid (ReadAt wrd RI wA))
    (K : Act → World → Prop) (hK : ∀ a w1, Code.wp Yba.prog (dropSeq 25 (Yba.f4.body.getD .skip)) (bodyPost Yba.prog Yba.f4 (fun e w' => e = .returned (.bool true) ∧ Below w.heap.size w w')) a w1 → K a w1) :
    Code.wp Yba.prog (headSeq (dropSeq 24 (Yba.f4.body.getD .skip))) (Exit.then K (bodyPost Yba.prog Yba.f4 (fun e w' => e = .returned (.bool true) ∧ Below w.heap.size w w'))) ⟨#[u0, .pointer (some ⟨w.heap.size, 0, none⟩), u2, u3, .int .i64 (nc : Int), .int .i64 (W : Int), .slice (some ⟨w.heap.size + 1, 0, none⟩) nc nc, .slice (some ⟨w.heap.size + 1 + 1, 0, none⟩) nc nc, .int .i64 (n : Int), u9, u10, u11, u12, u13, u14, u15, .int .i64 0, .slice (some ⟨RK, 0, none⟩) n n, u18, .slice (some ⟨RC, 0, none⟩) W W, .slice (some ⟨RD, 0, none⟩) W W, u21, .slice (some ⟨LB, 0, none⟩) W W, .slice (some ⟨EB, 0, none⟩) W W, .slice (some ⟨RR, 0, none⟩) nc nc, .slice av lv cv, u26, u27, u28, .slice (some ⟨RI, 0, none⟩) n n, u30, u31, u32, u33, u34, u35, u36, u37, u38, u39, u40, u41, u42, u43, u44, u45, u46, u47, u48, u49, u50, u51, u52, u53, u54, u55, u56, u57, u58, u59, u60, u61, u62, u63, u64, u65, u66, u67, u68, u69, u70, u71, u72, u73, u74, u75, u76, u77, u78, u79, u80, u81, u82, u83, u84, u85, u86, u87, u88, u89, u90, u91, u92, u93, u94, u95, u96, u97, u98, u99, u100, u101, u102, u103, u104, u105, u106, u107, u108, u109, u110, u111, u112, u113, u114, u115, u116, u117, u118, u119, u120, u121, u122, u123, u124, u125, u126, u127, u128, u129, u130, u131, u132, u133, u134, u135, u136, u137, u138, u139, u140, u141, u142, u143, u144, u145, u146, u147, u148, u149, u150, u151, u152, u153, u154, u155, u156, u157, u158, u159, u160, u161, u162, u163, u164, u165, u166, u167, u168, u169, u170, u171, u172, u173, u174, u175, u176, u177, u178, u179, u180, u181, u182, u183, u184, u185, u186, u187, u188, u189, u190, u191, u192, u193, u194, u195, u196, u197, u198, u199, u200, u201, u202, u203, u204, u205, u206, u207, u208, u209, u210, u211, u212, u213, u214, u215, u216, u217, u218, u219, u220, u221, u222, u223, u224, u225, u226, u227, u228, u229, u230, u231, u232, u233, u234, u235, u236, u237, u238, u239, u240, u241, u242, u243, u244, u245, u246, u247, u248, u249, u250, u251, u252, u253, u254, u255, u256, u257, u258, u259, u260, u261, u262, u263, u264, u265, u266, u267, u268, u269, u270, u271, u272, u273, u274, u275, u276, u277, u278, u279, u280, u281, u282, u283, u284, u285, u286, u287, u288, u289, u290, u291, u292, u293, u294, u295, u296, u297, u298, u299, u300, u301, u302, u303, u304, u305, u306, u307, u308, u309, u310, u311, u312, u313, u314, u315, u316, u317, u318, u319, u320, u321, u322, u323, u324, u325, u326, u327, u328, u329, u330, u331, u332, u333, u334, u335, u336, u337, u338, u339, u340, u341, u342, u343, u344, u345, u346, u347, u348, u349, u350, u351, u352, u353, u354, u355, u356, u357, u358, u359, u360, u361, u362, u363, u364, u365, u366, u367, u368, u369, u370, u371, u372, u373, u374, u375, u376, u377, u378, u379, u380, u381, u382, u383, u384, u385, u386, u387, u388, u389, u390, u391, u392, u393, u394, u395, u396, u397, u398, u399, u400], []⟩ wA := by
  conv => arg 2; whnf
  conv at hK => intro a w1; arg 1; arg 2; whnf
  go_upto_region 76 with (first
    | ((with_reducible refine wpList_build67 rfl _ _ rfl ⟨wA.heap.size, 0, none⟩ ⟨w.heap.size + 1, 0, none⟩ nc ?_ ?_ ?_); rfl; rfl)
    | ((with_reducible refine wpList_build74 rfl _ _ _ _ _ rfl ⟨wA.heap.size + 1, 0, none⟩ ⟨RK, 0, none⟩ ⟨RI, 0, none⟩ ⟨wA.heap.size + 1 + 1, 0, none⟩ ⟨wA.heap.size + 1 + 1 + 1, 0, none⟩ n ?_ ?_ ?_ ?_ ?_ ?_); rfl; rfl; rfl; rfl; rfl))
  have HTb := hideR (tables_at wA w.heap.size W nc n EB LB RK RI RR (.slice av lv cv))
  have hbC : Below wA.heap.size wA (((((wA.alloc (.cells #[.int .i64 0, .int .i64 (W : Int), .slice none 0 0, .slice none 0 0, .slice none 0 0, .slice (some ⟨EB, 0, none⟩) W W, .slice (some ⟨LB, 0, none⟩) W W] 47)).alloc (.cells (gCells ⟨wA.heap.size, 0, none⟩ ⟨w.heap.size + 1, 0, none⟩ nc) 67)).alloc (.cells #[.slice (some ⟨RR, 0, none⟩) nc nc] 38)).alloc (.cells #[.slice av lv cv] 38)).alloc (.cells (sCells ⟨wA.heap.size + 1, 0, none⟩ ⟨RK, 0, none⟩ ⟨RI, 0, none⟩ ⟨wA.heap.size + 1 + 1, 0, none⟩ ⟨wA.heap.size + 1 + 1 + 1, 0, none⟩ n) 74)) := below5 wA _ _ _ _ _
  generalize (((((wA.alloc (.cells #[.int .i64 0, .int .i64 (W : Int), .slice none 0 0, .slice none 0 0, .slice none 0 0, .slice (some ⟨EB, 0, none⟩) W W, .slice (some ⟨LB, 0, none⟩) W W] 47)).alloc (.cells (gCells ⟨wA.heap.size, 0, none⟩ ⟨w.heap.size + 1, 0, none⟩ nc) 67)).alloc (.cells #[.slice (some ⟨RR, 0, none⟩) nc nc] 38)).alloc (.cells #[.slice av lv cv] 38)).alloc (.cells (sCells ⟨wA.heap.size + 1, 0, none⟩ ⟨RK, 0, none⟩ ⟨RI, 0, none⟩ ⟨wA.heap.size + 1 + 1, 0, none⟩ ⟨wA.heap.size + 1 + 1 + 1, 0, none⟩ n) 74)) = wC at *
  have HPC := hideR (HP.out.below hbC)
  have HBXC := hideR (HBX.out.below hbC)
  have HQC := hideR (HQ.out.below hbC)
  have HRIC := hideR (HRI.out.below hbC)
  have hbwC : Below w.heap.size w wC := hbw.trans (hbC.mono hbw.size)
  clear HP HBX HQ HRI hbC hbw
  have hmk := run_make_row' (P := Yba.prog) 28 3 (.int .i64 0) 8 Yba.underlying28 info3r rfl .i64 .i64 np (by omega) (by omega)
  have HM0 := hideR (World.rowIs_made wC (.int .i64 0) np 3)
  have hbD : Below wC.heap.size wC (wC.alloc (.cells (madeCells #[.int .i64 0] np) 3)) := (Below.refl _ _).alloc (Nat.le_refl _) _
  have b6 : wC.cell? ⟨w.heap.size, 6, none⟩ = some (.slice aq np cq) := HBXC.out 6
  go_upto_region 77 with fail
  generalize (wC.alloc (.cells (madeCells #[.int .i64 0] np) 3)) = wD at *
  have b6D := kept hbD b6
  obtain ⟨wE, hrunE, hrE, hgE⟩ := run_copy_full wD 28 3 3 Yba.underlying28 infoS3 wC.heap.size np cq aq 3 _ (fun j => .int .i64 (pz j)) HM0.out (fun h => ⟨⟨qqb, qqo, none⟩, HI.out.hq h, fun j hj => by rw [add_off]; exact kept hbD (kept hbwC (HI.out.cq j hj))⟩) (fun _ _ => rfl)
  have hbE : Below wC.heap.size wC wE := hbD.grown hgE hbD.size (fun k hk => by cases hk; exact Nat.le_refl _)
  have HC := hideR (call_unord (above := above) (HTb.out.below hbE) (HPC.out.below hbE) (HQC.out.below hbE) HV.out (HRIC.out.below hbE) HN.out hst1 HMc.out hW3 hW2 hnp hrE)
  have b4E : wE.cell? ⟨w.heap.size, 4, none⟩ = some (.int .i64 above) := kept hbE (HBXC.out 4)
  have HRE := hideR hrE
  have HPE := hideR (HPC.out.below hbE)
  have HBXE := hideR (HBXC.out.below hbE)
  have hbwE : Below w.heap.size w wE := hbwC.trans (hbE.mono hbwC.size)
  clear hrE hgE hbD HM0 b6 hmk
  go_upto_region 79 with (go_at_call 6; refine (unhideR HC).mono ?_; rintro e wF ⟨va, rfl, hRk, hbF⟩)
  exact cruns_p6 ap nc cpc pb po A M C qb qo Z al nl cl lb lo lz ae ne ce eb eo ez ar nr cr rb ro rz aq np cq qqb qqo pz above wrd w W HI hnc hnr hnp hnl hne hW1 hW2 hW3 HMc n HN hst hst1 RK RC RD LB EB wA.heap.size wC.heap.size wE.heap.size va wF (hideR (HPE.out.below hbF)) (hideR (HBXE.out.below hbF)) (hbwE.trans (hbF.mono hbwE.size)) (hideR hRk) (hideR (rowIs_below HRE.out hbF)) _ (by assumption)
end Go.Proofs.Ybulkbhpq
