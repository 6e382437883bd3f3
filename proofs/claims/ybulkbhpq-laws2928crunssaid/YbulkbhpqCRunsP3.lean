/- LawS2928CRuns (4), its third part: the runs. -/
import Derived.Test.YbulkbhpqCRunsA
import Derived.Test.YbulkbhpqCRunsP4
import Derived.Deep.Cut
namespace Go.Proofs.Ybulkbhpq
open Go.RowKit
set_option linter.unusedVariables false
set_option linter.unusedSimpArgs false
attribute [local go_sem] alloc_drewN setCell_drewN

set_option maxHeartbeats 8000000 in
set_option maxRecDepth 100000 in
theorem cruns_p3 {u0 u2 u3 u9 u10 u11 u12 u13 u14 u15 u18 u21 u24 u25 u26 u27 u28 u29 u30 u31 u32 u33 u34 u35 u36 u37 u38 u39 u40 u41 u42 u43 u44 u45 u46 u47 u48 u49 u50 u51 u52 u53 u54 u55 u56 u57 u58 u59 u60 u61 u62 u63 u64 u65 u66 u67 u68 u69 u70 u71 u72 u73 u74 u75 u76 u77 u78 u79 u80 u81 u82 u83 u84 u85 u86 u87 u88 u89 u90 u91 u92 u93 u94 u95 u96 u97 u98 u99 u100 u101 u102 u103 u104 u105 u106 u107 u108 u109 u110 u111 u112 u113 u114 u115 u116 u117 u118 u119 u120 u121 u122 u123 u124 u125 u126 u127 u128 u129 u130 u131 u132 u133 u134 u135 u136 u137 u138 u139 u140 u141 u142 u143 u144 u145 u146 u147 u148 u149 u150 u151 u152 u153 u154 u155 u156 u157 u158 u159 u160 u161 u162 u163 u164 u165 u166 u167 u168 u169 u170 u171 u172 u173 u174 u175 u176 u177 u178 u179 u180 u181 u182 u183 u184 u185 u186 u187 u188 u189 u190 u191 u192 u193 u194 u195 u196 u197 u198 u199 u200 u201 u202 u203 u204 u205 u206 u207 u208 u209 u210 u211 u212 u213 u214 u215 u216 u217 u218 u219 u220 u221 u222 u223 u224 u225 u226 u227 u228 u229 u230 u231 u232 u233 u234 u235 u236 u237 u238 u239 u240 u241 u242 u243 u244 u245 u246 u247 u248 u249 u250 u251 u252 u253 u254 u255 u256 u257 u258 u259 u260 u261 u262 u263 u264 u265 u266 u267 u268 u269 u270 u271 u272 u273 u274 u275 u276 u277 u278 u279 u280 u281 u282 u283 u284 u285 u286 u287 u288 u289 u290 u291 u292 u293 u294 u295 u296 u297 u298 u299 u300 u301 u302 u303 u304 u305 u306 u307 u308 u309 u310 u311 u312 u313 u314 u315 u316 u317 u318 u319 u320 u321 u322 u323 u324 u325 u326 u327 u328 u329 u330 u331 u332 u333 u334 u335 u336 u337 u338 u339 u340 u341 u342 u343 u344 u345 u346 u347 u348 u349 u350 u351 u352 u353 u354 u355 u356 u357 u358 u359 u360 u361 u362 u363 u364 u365 u366 u367 u368 u369 u370 u371 u372 u373 u374 u375 u376 u377 u378 u379 u380 u381 u382 u383 u384 u385 u386 u387 u388 u389 u390 u391 u392 u393 u394 u395 u396 u397 u398 u399 u400 : Value}
    (ap : Option Addr) (nc cpc pb po : Nat) (A : Nat → Option Addr) (M C qb qo : Nat → Nat) (Z : Nat → Nat → Nat) (al : Option Addr) (nl cl lb lo : Nat) (lz : Nat → Int) (ae : Option Addr) (ne ce eb eo : Nat) (ez : Nat → Int)
    (ar : Option Addr) (nr cr rb ro : Nat) (rz : Nat → Int) (aq : Option Addr) (np cq qqb qqo : Nat) (pz : Nat → Int) (above : Int) (wrd : Bool) (w : World) (W : Nat)
    (HI : Hid (CIn ap nc pb po A M C qb qo Z al nl lb lo lz ae ne eb eo ez ar nr rb ro rz aq np qqb qqo pz w))
    (hnc : nc ≤ 300) (hnr : nr ≤ 4096) (hnp : np ≤ 4096) (hnl : nl ≤ 9223372036854775807) (hne : ne ≤ 9223372036854775807) (hW1 : 1 ≤ W) (hW2 : nc ≤ W) (hW3 : W ≤ 300) (HMc : Hid (∀ j, j < nc → M j ≤ 300))
    (n : Nat) (HN : Hid (n = Plan.st (Ln M Z) nc)) (hst : n ≤ 400000) (hst1 : 1 ≤ n) (RK RC RD LB EB : Nat) (w6 : World) (HP : Hid (Ph3 w.heap.size nc M Z W n nr rz (La nl lz) (Ea ne ez nc (Ln M Z)) RK RC RD LB EB w6))
    (HBX : Hid (BoxAt ap al ae ar aq nc cpc nl cl ne ce nr cr np cq above wrd w.heap.size w6)) (hbw : Below w.heap.size w w6)
    (K : Act → World → Prop) (hK : ∀ a w1, Code.wp Yba.prog (dropSeq 20 (Yba.f4.body.getD .skip)) (bodyPost Yba.prog Yba.f4 (fun e w' => e = .returned (.bool true) ∧ Below w.heap.size w w')) a w1 → K a w1) :
    Code.wp Yba.prog (headSeq (dropSeq 19 (Yba.f4.body.getD .skip))) (Exit.then K (bodyPost Yba.prog Yba.f4 (fun e w' => e = .returned (.bool true) ∧ Below w.heap.size w w'))) ⟨#[u0, .pointer (some ⟨w.heap.size, 0, none⟩), u2, u3, .int .i64 (nc : Int), .int .i64 (W : Int), .slice (some ⟨w.heap.size + 1, 0, none⟩) nc nc, .slice (some ⟨w.heap.size + 1 + 1, 0, none⟩) nc nc, .int .i64 (n : Int), u9, u10, u11, u12, u13, u14, u15, .int .i64 0, .slice (some ⟨RK, 0, none⟩) n n, u18, .slice (some ⟨RC, 0, none⟩) W W, .slice (some ⟨RD, 0, none⟩) W W, u21, .slice (some ⟨LB, 0, none⟩) W W, .slice (some ⟨EB, 0, none⟩) W W, u24, u25, u26, u27, u28, u29, u30, u31, u32, u33, u34, u35, u36, u37, u38, u39, u40, u41, u42, u43, u44, u45, u46, u47, u48, u49, u50, u51, u52, u53, u54, u55, u56, u57, u58, u59, u60, u61, u62, u63, u64, u65, u66, u67, u68, u69, u70, u71, u72, u73, u74, u75, u76, u77, u78, u79, u80, u81, u82, u83, u84, u85, u86, u87, u88, u89, u90, u91, u92, u93, u94, u95, u96, u97, u98, u99, u100, u101, u102, u103, u104, u105, u106, u107, u108, u109, u110, u111, u112, u113, u114, u115, u116, u117, u118, u119, u120, u121, u122, u123, u124, u125, u126, u127, u128, u129, u130, u131, u132, u133, u134, u135, u136, u137, u138, u139, u140, u141, u142, u143, u144, u145, u146, u147, u148, u149, u150, u151, u152, u153, u154, u155, u156, u157, u158, u159, u160, u161, u162, u163, u164, u165, u166, u167, u168, u169, u170, u171, u172, u173, u174, u175, u176, u177, u178, u179, u180, u181, u182, u183, u184, u185, u186, u187, u188, u189, u190, u191, u192, u193, u194, u195, u196, u197, u198, u199, u200, u201, u202, u203, u204, u205, u206, u207, u208, u209, u210, u211, u212, u213, u214, u215, u216, u217, u218, u219, u220, u221, u222, u223, u224, u225, u226, u227, u228, u229, u230, u231, u232, u233, u234, u235, u236, u237, u238, u239, u240, u241, u242, u243, u244, u245, u246, u247, u248, u249, u250, u251, u252, u253, u254, u255, u256, u257, u258, u259, u260, u261, u262, u263, u264, u265, u266, u267, u268, u269, u270, u271, u272, u273, u274, u275, u276, u277, u278, u279, u280, u281, u282, u283, u284, u285, u286, u287, u288, u289, u290, u291, u292, u293, u294, u295, u296, u297, u298, u299, u300, u301, u302, u303, u304, u305, u306, u307, u308, u309, u310, u311, u312, u313, u314, u315, u316, u317, u318, u319, u320, u321, u322, u323, u324, u325, u326, u327, u328, u329, u330, u331, u332, u333, u334, u335, u336, u337, u338, u339, u340, u341, u342, u343, u344, u345, u346, u347, u348, u349, u350, u351, u352, u353, u354, u355, u356, u357, u358, u359, u360, u361, u362, u363, u364, u365, u366, u367, u368, u369, u370, u371, u372, u373, u374, u375, u376, u377, u378, u379, u380, u381, u382, u383, u384, u385, u386, u387, u388, u389, u390, u391, u392, u393, u394, u395, u396, u397, u398, u399, u400], []⟩ w6 := by
  conv => arg 2; whnf
  conv at hK => intro a w1; arg 1; arg 2; whnf
  have hmk := run_make_row' (P := Yba.prog) 38 40 (.slice none 0 0) 24 Yba.underlying38 info40 rfl .i64 .i64 nc (by omega) (by omega)
  have HR0 := hideR (World.rowIs_made w6 (.slice none 0 0) nc 40)
  obtain ⟨i0, hi, hz0, hz1, hz2⟩ := info_parts info40
  go_wp2
  go_loopw [25, 26] (fun v i wx => ∃ (c : Nat) (RB : Nat → Nat), c ≤ nc ∧ i = .int .i64 c ∧ Hid (Ph4 w6.heap.size nc M Z RB v c wx) ∧ Hid (c = 0 → v = .slice none 0 0) ∧ Below w6.heap.size w6 wx) (fun _ i _ => nc - (intOf i).toNat)
  case atStart => exact ⟨0, fun _ => 0, Nat.zero_le _, rfl, ⟨HR0.out.congr (fun i _ => by simp), fun i hi => absurd hi (Nat.not_lt_zero _), World.ownsRow_nil _ _ _ _⟩, fun _ => rfl, (Below.refl _ _).alloc (Nat.le_refl _) _⟩
  case round =>
    obtain ⟨c, RB, hc, rfl, HQ, HV, hb7⟩ := hrel
    clear HR0
    by_cases hlt : c < nc
    · have hMc := HMc.out c hlt
      have HP7 := hideR (HP.out.below hb7)
      have xpl := HP7.out.pl.cell hlt
      have hmk2 := make_run (M c) hMc
      obtain ⟨w7, hw7⟩ : ∃ x, x = wr := ⟨_, rfl⟩
      subst hw7
      have HR8 := hideR (made_run w7 (M c))
      go_wp2
      clear hmk2
      go_loopw [28] (fun i wx => ∃ k : Nat, k ≤ M c ∧ i = .int .i64 k ∧ Hid (wx.rowIs w7.heap.size 42 (M c * 2) (fun j => if j < k * 2 then runCell Z c j else .int .i32 0)) ∧ Below w7.heap.size w7 wx) (fun i _ => M c - (intOf i).toNat)
      case atStart => exact ⟨0, Nat.zero_le _, rfl, HR8.out.congr (fun j _ => by simp), (Below.refl _ _).alloc (Nat.le_refl _) _⟩
      case round =>
        obtain ⟨k, hk, rfl, HRk, hb8⟩ := hrel
        have xpl8 := kept hb8 xpl
        by_cases hlk : k < M c
        · have xps := (rowIs_below (HP7.out.ps c hlt) hb8).cell hlk
          have rx0 := HRk.out.cell (i := k * 2) (by omega)
          have rx1 := HRk.out.cell (i := k * 2 + 1) (by omega)
          have fx0 := HRk.out.frozen (k * 2)
          have fx1 := HRk.out.frozen (k * 2 + 1)
          go_wp2
          go_roundw
          case rel => exact ⟨k + 1, by omega, by go_num, run_fill HRk.out rfl rfl, (hb8.setCell (Nat.le_refl _) _).setCell (Nat.le_refl _) _⟩
          case measure => simp [intOf]; omega
        · have e : M c = k := by omega
          have HE := hideR e
          clear e
          have HRf := hideR (HRk.out.congr (g := runCell Z c) (fun j hj => by rw [if_pos (by have := HE.out; omega)]))
          have xrr := (rowIs_below HQ.out.rr hb8).cell hlt
          have frr := (rowIs_below HQ.out.rr hb8).frozen c
          simp only [Nat.lt_irrefl, if_false] at xrr
          have hRRlt : w6.heap.size < w7.heap.size := HQ.out.rr.lt
          by_cases hpar : c % 2 = 0
          · have hpb : ((c : Int) % 2 == 0) = true := by simp; omega
            have hle : (c + 1) / 2 ≤ 300 := by omega
            go_wp2_with (first
              | (at_builtin; refine wpList_append_own _ rfl _ _ 38 rfl (w6.heap.size + 1) 40 i0 (.slice none 0 0) 1 24 Yba.underlying38 hi hz0 hz1 hz2 rfl (by decide) _ _ _ rfl (by exact ((ownsRow_setCell_below (own_below HQ.out.own hb8) (by simp) _).alloc _)) ⟨wr.heap.size, 0, none⟩ 1 1 [.slice (some ⟨w7.heap.size, 0, none⟩) (M c) (M c)] rfl rfl ?c1 ?c2 ?c3 ?c4 ?c5 ?_)
              | go_in)
            case c1 => exact cell_one_set _ _ _ _ _
            case c2 => intro u hu; simp at hu; subst hu; rfl
            case c3 => unfold maxLen; omega
            case c4 => omega
            case c5 => simp; have := hb8.size; omega
            · intro v' w9 hown9 hg9 hne9
              have HQ9 := hideR (ph4_even HQ.out hpar hb8 HRf.out hg9 hown9)
              have hb9 : Below w6.heap.size w6 w9 := (((hb7.trans (hb8.mono hb7.size)).setCell (Nat.le_refl _) _).alloc (by simp; have := hb8.size; omega) _).grown hg9 (by simp; have := hb8.size; omega) (fun k hk => by have := (HQ.out.own.lt k hk).1; omega)
              clear hown9 hg9 hne9
              go_wp2
              go_roundw
              case rel => exact ⟨c + 1, upd RB c w7.heap.size, by omega, by go_num, HQ9, fun h => absurd h (by omega), hb9⟩
              case measure => simp [intOf]; omega
          · have hpb : ((c : Int) % 2 == 0) = false := by simp; omega
            go_wp2
            go_roundw
            case rel => exact ⟨c + 1, upd RB c w7.heap.size, by omega, by go_num, ph4_odd HQ.out (by omega) hb8 HRf.out, fun h => absurd h (by omega), (hb7.trans (hb8.mono hb7.size)).setCell (Nat.le_refl _) _⟩
            case measure => simp [intOf]; omega
    · have e : nc = c := by omega
      subst e
      go_upto_region 70 with fail
      exact cruns_p4 ap nc cpc pb po A M C qb qo Z al nl cl lb lo lz ae ne ce eb eo ez ar nr cr rb ro rz aq np cq qqb qqo pz above wrd w W HI hnc hnr hnp hnl hne hW1 hW2 hW3 HMc n HN hst hst1 RK RC RD LB EB w6.heap.size RB _ wr (hideR (HP.out.below hb7)) (hideR (HBX.out.below hb7)) (hbw.trans (hb7.mono hbw.size)) HQ HV _ (by assumption)
end Go.Proofs.Ybulkbhpq
