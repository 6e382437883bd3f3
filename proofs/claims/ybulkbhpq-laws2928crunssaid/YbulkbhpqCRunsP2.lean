/- LawS2928CRuns (4), its second part: the ranks and the tables. -/
import Derived.Test.YbulkbhpqCRunsA
import Derived.Test.YbulkbhpqCRunsP3
import Derived.Deep.Cut
namespace Go.Proofs.Ybulkbhpq
open Go.RowKit
set_option linter.unusedVariables false
set_option linter.unusedSimpArgs false
attribute [local go_sem] alloc_drewN setCell_drewN

set_option maxHeartbeats 8000000 in
set_option maxRecDepth 100000 in
theorem cruns_p2 {u0 u2 u3 u9 u10 u11 u12 u13 u14 u15 u17 u18 u19 u20 u21 u22 u23 u24 u25 u26 u27 u28 u29 u30 u31 u32 u33 u34 u35 u36 u37 u38 u39 u40 u41 u42 u43 u44 u45 u46 u47 u48 u49 u50 u51 u52 u53 u54 u55 u56 u57 u58 u59 u60 u61 u62 u63 u64 u65 u66 u67 u68 u69 u70 u71 u72 u73 u74 u75 u76 u77 u78 u79 u80 u81 u82 u83 u84 u85 u86 u87 u88 u89 u90 u91 u92 u93 u94 u95 u96 u97 u98 u99 u100 u101 u102 u103 u104 u105 u106 u107 u108 u109 u110 u111 u112 u113 u114 u115 u116 u117 u118 u119 u120 u121 u122 u123 u124 u125 u126 u127 u128 u129 u130 u131 u132 u133 u134 u135 u136 u137 u138 u139 u140 u141 u142 u143 u144 u145 u146 u147 u148 u149 u150 u151 u152 u153 u154 u155 u156 u157 u158 u159 u160 u161 u162 u163 u164 u165 u166 u167 u168 u169 u170 u171 u172 u173 u174 u175 u176 u177 u178 u179 u180 u181 u182 u183 u184 u185 u186 u187 u188 u189 u190 u191 u192 u193 u194 u195 u196 u197 u198 u199 u200 u201 u202 u203 u204 u205 u206 u207 u208 u209 u210 u211 u212 u213 u214 u215 u216 u217 u218 u219 u220 u221 u222 u223 u224 u225 u226 u227 u228 u229 u230 u231 u232 u233 u234 u235 u236 u237 u238 u239 u240 u241 u242 u243 u244 u245 u246 u247 u248 u249 u250 u251 u252 u253 u254 u255 u256 u257 u258 u259 u260 u261 u262 u263 u264 u265 u266 u267 u268 u269 u270 u271 u272 u273 u274 u275 u276 u277 u278 u279 u280 u281 u282 u283 u284 u285 u286 u287 u288 u289 u290 u291 u292 u293 u294 u295 u296 u297 u298 u299 u300 u301 u302 u303 u304 u305 u306 u307 u308 u309 u310 u311 u312 u313 u314 u315 u316 u317 u318 u319 u320 u321 u322 u323 u324 u325 u326 u327 u328 u329 u330 u331 u332 u333 u334 u335 u336 u337 u338 u339 u340 u341 u342 u343 u344 u345 u346 u347 u348 u349 u350 u351 u352 u353 u354 u355 u356 u357 u358 u359 u360 u361 u362 u363 u364 u365 u366 u367 u368 u369 u370 u371 u372 u373 u374 u375 u376 u377 u378 u379 u380 u381 u382 u383 u384 u385 u386 u387 u388 u389 u390 u391 u392 u393 u394 u395 u396 u397 u398 u399 u400 : Value}
    (ap : Option Addr) (nc cpc pb po : Nat) (A : Nat → Option Addr) (M C qb qo : Nat → Nat) (Z : Nat → Nat → Nat) (al : Option Addr) (nl cl lb lo : Nat) (lz : Nat → Int) (ae : Option Addr) (ne ce eb eo : Nat) (ez : Nat → Int)
    (ar : Option Addr) (nr cr rb ro : Nat) (rz : Nat → Int) (aq : Option Addr) (np cq qqb qqo : Nat) (pz : Nat → Int) (above : Int) (wrd : Bool) (w : World) (W : Nat)
    (HI : Hid (CIn ap nc pb po A M C qb qo Z al nl lb lo lz ae ne eb eo ez ar nr rb ro rz aq np qqb qqo pz w))
    (hnc : nc ≤ 300) (hnr : nr ≤ 4096) (hnp : np ≤ 4096) (hnl : nl ≤ 9223372036854775807) (hne : ne ≤ 9223372036854775807) (hW1 : 1 ≤ W) (hW2 : nc ≤ W) (hW3 : W ≤ 300) (HMc : Hid (∀ j, j < nc → M j ≤ 300))
    (n : Nat) (HN : Hid (n = Plan.st (Ln M Z) nc)) (hst : n ≤ 400000) (hst1 : 1 ≤ n) (w2 : World) (HP : Hid (Ph2 w.heap.size nc M Z nc w2)) (HBX : Hid (BoxAt ap al ae ar aq nc cpc nl cl ne ce nr cr np cq above wrd w.heap.size w2)) (hbw : Below w.heap.size w w2)
    (K : Act → World → Prop) (hK : ∀ a w1, Code.wp Yba.prog (dropSeq 11 (Yba.f4.body.getD .skip)) (bodyPost Yba.prog Yba.f4 (fun e w' => e = .returned (.bool true) ∧ Below w.heap.size w w')) a w1 → K a w1) :
    Code.wp Yba.prog (headSeq (dropSeq 10 (Yba.f4.body.getD .skip))) (Exit.then K (bodyPost Yba.prog Yba.f4 (fun e w' => e = .returned (.bool true) ∧ Below w.heap.size w w'))) ⟨#[u0, .pointer (some ⟨w.heap.size, 0, none⟩), u2, u3, .int .i64 (nc : Int), .int .i64 (W : Int), .slice (some ⟨w.heap.size + 1, 0, none⟩) nc nc, .slice (some ⟨w.heap.size + 1 + 1, 0, none⟩) nc nc, .int .i64 (n : Int), u9, u10, u11, u12, u13, u14, u15, .int .i64 0, u17, u18, u19, u20, u21, u22, u23, u24, u25, u26, u27, u28, u29, u30, u31, u32, u33, u34, u35, u36, u37, u38, u39, u40, u41, u42, u43, u44, u45, u46, u47, u48, u49, u50, u51, u52, u53, u54, u55, u56, u57, u58, u59, u60, u61, u62, u63, u64, u65, u66, u67, u68, u69, u70, u71, u72, u73, u74, u75, u76, u77, u78, u79, u80, u81, u82, u83, u84, u85, u86, u87, u88, u89, u90, u91, u92, u93, u94, u95, u96, u97, u98, u99, u100, u101, u102, u103, u104, u105, u106, u107, u108, u109, u110, u111, u112, u113, u114, u115, u116, u117, u118, u119, u120, u121, u122, u123, u124, u125, u126, u127, u128, u129, u130, u131, u132, u133, u134, u135, u136, u137, u138, u139, u140, u141, u142, u143, u144, u145, u146, u147, u148, u149, u150, u151, u152, u153, u154, u155, u156, u157, u158, u159, u160, u161, u162, u163, u164, u165, u166, u167, u168, u169, u170, u171, u172, u173, u174, u175, u176, u177, u178, u179, u180, u181, u182, u183, u184, u185, u186, u187, u188, u189, u190, u191, u192, u193, u194, u195, u196, u197, u198, u199, u200, u201, u202, u203, u204, u205, u206, u207, u208, u209, u210, u211, u212, u213, u214, u215, u216, u217, u218, u219, u220, u221, u222, u223, u224, u225, u226, u227, u228, u229, u230, u231, u232, u233, u234, u235, u236, u237, u238, u239, u240, u241, u242, u243, u244, u245, u246, u247, u248, u249, u250, u251, u252, u253, u254, u255, u256, u257, u258, u259, u260, u261, u262, u263, u264, u265, u266, u267, u268, u269, u270, u271, u272, u273, u274, u275, u276, u277, u278, u279, u280, u281, u282, u283, u284, u285, u286, u287, u288, u289, u290, u291, u292, u293, u294, u295, u296, u297, u298, u299, u300, u301, u302, u303, u304, u305, u306, u307, u308, u309, u310, u311, u312, u313, u314, u315, u316, u317, u318, u319, u320, u321, u322, u323, u324, u325, u326, u327, u328, u329, u330, u331, u332, u333, u334, u335, u336, u337, u338, u339, u340, u341, u342, u343, u344, u345, u346, u347, u348, u349, u350, u351, u352, u353, u354, u355, u356, u357, u358, u359, u360, u361, u362, u363, u364, u365, u366, u367, u368, u369, u370, u371, u372, u373, u374, u375, u376, u377, u378, u379, u380, u381, u382, u383, u384, u385, u386, u387, u388, u389, u390, u391, u392, u393, u394, u395, u396, u397, u398, u399, u400], []⟩ w2 := by
  conv => arg 2; whnf
  conv at hK => intro a w1; arg 1; arg 2; whnf
  have hmk := run_make_row' (P := Yba.prog) 28 3 (.int .i64 0) 8 Yba.underlying28 info3r rfl .i64 .i64 n (by omega) (by omega)
  have hR5 := World.rowIs_made w2 (.int .i64 0) n 3
  go_wp2
  clear hmk
  go_loopw [18] (fun i wx => ∃ t : Nat, t ≤ n ∧ i = .int .i64 t ∧ Hid (wx.rowIs w2.heap.size 3 n (fun j => if j < t then .int .i64 (Rk nr rz j) else .int .i64 0)) ∧ Hid (wx.heap.size = w2.heap.size + 1) ∧ Below w2.heap.size w2 wx) (fun i _ => n - (intOf i).toNat)
  case atStart => exact ⟨0, Nat.zero_le _, rfl, hR5.congr (fun j _ => by simp), by simp [Hid], (Below.refl _ _).alloc (Nat.le_refl _) _⟩
  case round =>
    obtain ⟨t, ht, rfl, HR5, HS5, hb5⟩ := hrel
    by_cases hlt : t < n
    · have b3 : wr.cell? ⟨w.heap.size, 3, none⟩ = some (.slice ar nr cr) := kept hb5 (HBX.out 3)
      have rx := HR5.out.cell hlt
      have fx := HR5.out.frozen t
      by_cases h0 : nr = 0
      · have HRK := hideR (show Rk nr rz t = (t : Int) by unfold Rk; rw [if_pos h0])
        subst h0
        go_wp2
        go_roundw
        case rel => exact ⟨t + 1, by omega, by go_num, row_fill HR5.out (by rw [HRK.out]), by have := HS5.out; simpa [Hid] using this, hb5.setCell (Nat.le_refl _) _⟩
        case measure => simp [intOf]; omega
      · obtain rfl := HI.out.hr (by omega)
        have HRK := hideR (show Rk nr rz t = rz (t % nr) by unfold Rk; rw [if_neg h0])
        have hmod : t % nr < nr := Nat.mod_lt _ (by omega)
        have cz := kept hb5 (kept hbw (HI.out.cr _ hmod))
        have h0' : (0 : Int) < (nr : Int) := by omega
        go_wp2
        go_region
        go_wp2
        go_roundw
        case rel => exact ⟨t + 1, by omega, by go_num, (row_fill HR5.out (by rw [HRK.out])).drew, by have := HS5.out; simpa [Hid] using this, (hb5.setCell (Nat.le_refl _) _).drew⟩
        case measure => simp [intOf]; omega
    · have e : n = t := by omega
      subst e
      obtain ⟨w3, hw3⟩ : ∃ x, x = wr := ⟨_, rfl⟩
      subst hw3
      have HRK5 := hideR (row_full HR5.out)
      have hmk := run_make_row' (P := Yba.prog) 32 21 (.int .i32 0) 4 Yba.underlying32 info21 rfl .i64 .i64 W (by omega) (by omega)
      have HA0 := hideR ((World.rowIs_made w3 (.int .i32 0) W 21).alloc (.cells (madeCells #[.int .i32 0] W) 21))
      have HB0 := hideR (World.rowIs_made (w3.alloc (.cells (madeCells #[.int .i32 0] W) 21)) (.int .i32 0) W 21)
      have HBX3 := hideR (HBX.out.below hb5)
      have hbw3 : Below w.heap.size w w3 := hbw.trans (hb5.mono hbw.size)
      have k0 : w.heap.size < w3.heap.size := World.block_lt_of_cell? w3 _ (HBX3.out 0)
      have k1 : w.heap.size + 1 < w3.heap.size := (rowIs_below HP.out.ch hb5).lt
      go_wp2
      go_loopw [21] (fun i wx => ∃ c : Nat, c ≤ W ∧ i = .int .i64 c ∧ Hid (wx.rowIs w3.heap.size 21 W (fun j => if j < c then .int .i32 (La nl lz j) else .int .i32 0)) ∧ Hid (wx.rowIs (w3.heap.size + 1) 21 W (fun j => if j < c then .int .i32 (Ea ne ez nc (Ln M Z) j) else .int .i32 0)) ∧ Hid (wx.heap.size = w3.heap.size + 1 + 1) ∧ Below w3.heap.size w3 wx) (fun i _ => W - (intOf i).toNat)
      case atStart => exact ⟨0, Nat.zero_le _, rfl, HA0.out.congr (fun j _ => by simp), by have := HB0.out; simp only [World.size_alloc] at this; exact this.congr (fun j _ => by simp), by simp [Hid], ((Below.refl _ _).alloc (Nat.le_refl _) _).alloc (by simp) _⟩
      case round =>
        obtain ⟨c, hc, rfl, HRA, HRB, HS6, hb6⟩ := hrel
        clear HA0 HB0 hmk
        by_cases hlt : c < W
        · have b1 : wr.cell? ⟨w.heap.size, 1, none⟩ = some (.slice al nl cl) := kept hb6 (HBX3.out 1)
          have k4 : w3.heap.size ≠ w.heap.size := by omega
          have rxA := HRA.out.cell hlt
          have fxA := HRA.out.frozen c
          by_cases hcl : c < nl
          · obtain rfl := HI.out.hl (by omega)
            have cz := kept hb6 (kept hbw3 (HI.out.cl _ hcl))
            have k2 : lb < w3.heap.size := World.block_lt_of_cell? w3 _ (kept hbw3 (HI.out.cl _ hcl))
            have k3 : w3.heap.size ≠ lb := by omega
            have HLA := hideR (show (lz c) = La nl lz c by unfold La; rw [if_pos hcl])
            go_upto_region 48 with fail
            have HA2 := hideR (row_fill2 (v1 := .int .i32 (-1)) HRA.out (congrArg (Value.int .i32) HLA.out))
            have HB2 := hideR (World.rowIs.setOther (World.rowIs.setOther HRB.out (a := ⟨w3.heap.size, c, none⟩) (by simp) (.int .i32 (-1))) (a := ⟨w3.heap.size, c, none⟩) (by simp) (.int .i32 (lz c)))
            have HS7 : Hid (((wr.setCell ⟨w3.heap.size, c, none⟩ (.int .i32 (-1))).setCell ⟨w3.heap.size, c, none⟩ (.int .i32 (lz c))).heap.size = w3.heap.size + 1 + 1) := by have := HS6.out; simpa [Hid] using this
            have hb7 : Below w3.heap.size w3 ((wr.setCell ⟨w3.heap.size, c, none⟩ (.int .i32 (-1))).setCell ⟨w3.heap.size, c, none⟩ (.int .i32 (lz c))) := (hb6.setCell (Nat.le_refl _) _).setCell (Nat.le_refl _) _
            clear HRA HRB HS6 hb6 b1 rxA fxA cz HLA
            generalize ((wr.setCell ⟨w3.heap.size, c, none⟩ (.int .i32 (-1))).setCell ⟨w3.heap.size, c, none⟩ (.int .i32 (lz c))) = wa at *
            have b2 : wa.cell? ⟨w.heap.size, 2, none⟩ = some (.slice ae ne ce) := kept hb7 (HBX3.out 2)
            have rxB := HB2.out.cell hlt
            have fxB := HB2.out.frozen c
            have k5 : w3.heap.size + 1 ≠ w.heap.size := by omega
            by_cases hcn : c < nc
            · have hcn' : (c : Int) < (nc : Int) := by omega
              have xch := (rowIs_below (rowIs_below HP.out.ch hb5) hb7).cell hcn
              simp only [hcn, if_true] at xch
              have k6 : w3.heap.size + 1 ≠ w.heap.size + 1 := by omega
              have hLn : Ln M Z c ≤ 1200 := Nat.le_trans (Plan.en_le (Z c) (M c)) (by have := HMc.out c hcn; omega)
              by_cases hce : c < ne
              · obtain rfl := HI.out.he (by omega)
                have hce' : (c : Int) < (ne : Int) := by omega
                have cz := kept hb7 (kept hbw3 (HI.out.ce _ hce))
                have k7 : eb < w3.heap.size := World.block_lt_of_cell? w3 _ (kept hbw3 (HI.out.ce _ hce))
                have k8 : w3.heap.size + 1 ≠ eb := by omega
                have HEA := hideR (show (ez c) = Ea ne ez nc (Ln M Z) c by unfold Ea; rw [if_pos hce])
                go_wp2
                go_roundw
                case rel => exact ⟨c + 1, by omega, by go_num, ((HA2.out.setOther (by simp) _).setOther (by simp) _).setOther (by simp) _, row_fill3 HB2.out (congrArg (Value.int .i32) HEA.out), by have := HS7.out; simpa [Hid] using this, ((hb7.setCell (by simp) _).setCell (by simp) _).setCell (by simp) _⟩
                case measure => simp [intOf]; omega
              · have hce' : decide ((c : Int) < (ne : Int)) = false := by simp; omega
                have HEA := hideR (show ((Ln M Z c : Nat) : Int) = Ea ne ez nc (Ln M Z) c by unfold Ea; rw [if_neg hce, if_pos hcn])
                go_wp2
                go_roundw
                case rel => exact ⟨c + 1, by omega, by go_num, (HA2.out.setOther (by simp) _).setOther (by simp) _, row_fill2 HB2.out (congrArg (Value.int .i32) HEA.out), by have := HS7.out; simpa [Hid] using this, (hb7.setCell (by simp) _).setCell (by simp) _⟩
                case measure => simp [intOf]; omega
            · have hcn' : decide ((c : Int) < (nc : Int)) = false := by simp; omega
              by_cases hce : c < ne
              · obtain rfl := HI.out.he (by omega)
                have hce' : (c : Int) < (ne : Int) := by omega
                have cz := kept hb7 (kept hbw3 (HI.out.ce _ hce))
                have k7 : eb < w3.heap.size := World.block_lt_of_cell? w3 _ (kept hbw3 (HI.out.ce _ hce))
                have k8 : w3.heap.size + 1 ≠ eb := by omega
                have HEA := hideR (show (ez c) = Ea ne ez nc (Ln M Z) c by unfold Ea; rw [if_pos hce])
                go_wp2
                go_roundw
                case rel => exact ⟨c + 1, by omega, by go_num, (HA2.out.setOther (by simp) _).setOther (by simp) _, row_fill2 HB2.out (congrArg (Value.int .i32) HEA.out), by have := HS7.out; simpa [Hid] using this, (hb7.setCell (by simp) _).setCell (by simp) _⟩
                case measure => simp [intOf]; omega
              · have hce' : decide ((c : Int) < (ne : Int)) = false := by simp; omega
                have HEA := hideR (show (0 : Int) = Ea ne ez nc (Ln M Z) c by unfold Ea; rw [if_neg hce, if_neg hcn])
                go_wp2
                go_roundw
                case rel => exact ⟨c + 1, by omega, by go_num, HA2.out.setOther (by simp) _, row_fill HB2.out (congrArg (Value.int .i32) HEA.out), by have := HS7.out; simpa [Hid] using this, hb7.setCell (by simp) _⟩
                case measure => simp [intOf]; omega
          · have hcl' : decide ((c : Int) < (nl : Int)) = false := by simp; omega
            have HLA := hideR (show (-1 : Int) = La nl lz c by unfold La; rw [if_neg hcl])
            go_upto_region 48 with fail
            have HA2 := hideR (row_fill HRA.out (congrArg (Value.int .i32) HLA.out))
            have HB2 := hideR (World.rowIs.setOther HRB.out (a := ⟨w3.heap.size, c, none⟩) (by simp) (.int .i32 (-1)))
            have HS7 : Hid ((wr.setCell ⟨w3.heap.size, c, none⟩ (.int .i32 (-1))).heap.size = w3.heap.size + 1 + 1) := by have := HS6.out; simpa [Hid] using this
            have hb7 : Below w3.heap.size w3 (wr.setCell ⟨w3.heap.size, c, none⟩ (.int .i32 (-1))) := hb6.setCell (Nat.le_refl _) _
            clear HRA HRB HS6 hb6 b1 rxA fxA HLA
            generalize (wr.setCell ⟨w3.heap.size, c, none⟩ (.int .i32 (-1))) = wa at *
            have b2 : wa.cell? ⟨w.heap.size, 2, none⟩ = some (.slice ae ne ce) := kept hb7 (HBX3.out 2)
            have rxB := HB2.out.cell hlt
            have fxB := HB2.out.frozen c
            have k5 : w3.heap.size + 1 ≠ w.heap.size := by omega
            by_cases hcn : c < nc
            · have hcn' : (c : Int) < (nc : Int) := by omega
              have xch := (rowIs_below (rowIs_below HP.out.ch hb5) hb7).cell hcn
              simp only [hcn, if_true] at xch
              have k6 : w3.heap.size + 1 ≠ w.heap.size + 1 := by omega
              have hLn : Ln M Z c ≤ 1200 := Nat.le_trans (Plan.en_le (Z c) (M c)) (by have := HMc.out c hcn; omega)
              by_cases hce : c < ne
              · obtain rfl := HI.out.he (by omega)
                have hce' : (c : Int) < (ne : Int) := by omega
                have cz := kept hb7 (kept hbw3 (HI.out.ce _ hce))
                have k7 : eb < w3.heap.size := World.block_lt_of_cell? w3 _ (kept hbw3 (HI.out.ce _ hce))
                have k8 : w3.heap.size + 1 ≠ eb := by omega
                have HEA := hideR (show (ez c) = Ea ne ez nc (Ln M Z) c by unfold Ea; rw [if_pos hce])
                go_wp2
                go_roundw
                case rel => exact ⟨c + 1, by omega, by go_num, ((HA2.out.setOther (by simp) _).setOther (by simp) _).setOther (by simp) _, row_fill3 HB2.out (congrArg (Value.int .i32) HEA.out), by have := HS7.out; simpa [Hid] using this, ((hb7.setCell (by simp) _).setCell (by simp) _).setCell (by simp) _⟩
                case measure => simp [intOf]; omega
              · have hce' : decide ((c : Int) < (ne : Int)) = false := by simp; omega
                have HEA := hideR (show ((Ln M Z c : Nat) : Int) = Ea ne ez nc (Ln M Z) c by unfold Ea; rw [if_neg hce, if_pos hcn])
                go_wp2
                go_roundw
                case rel => exact ⟨c + 1, by omega, by go_num, (HA2.out.setOther (by simp) _).setOther (by simp) _, row_fill2 HB2.out (congrArg (Value.int .i32) HEA.out), by have := HS7.out; simpa [Hid] using this, (hb7.setCell (by simp) _).setCell (by simp) _⟩
                case measure => simp [intOf]; omega
            · have hcn' : decide ((c : Int) < (nc : Int)) = false := by simp; omega
              by_cases hce : c < ne
              · obtain rfl := HI.out.he (by omega)
                have hce' : (c : Int) < (ne : Int) := by omega
                have cz := kept hb7 (kept hbw3 (HI.out.ce _ hce))
                have k7 : eb < w3.heap.size := World.block_lt_of_cell? w3 _ (kept hbw3 (HI.out.ce _ hce))
                have k8 : w3.heap.size + 1 ≠ eb := by omega
                have HEA := hideR (show (ez c) = Ea ne ez nc (Ln M Z) c by unfold Ea; rw [if_pos hce])
                go_wp2
                go_roundw
                case rel => exact ⟨c + 1, by omega, by go_num, (HA2.out.setOther (by simp) _).setOther (by simp) _, row_fill2 HB2.out (congrArg (Value.int .i32) HEA.out), by have := HS7.out; simpa [Hid] using this, (hb7.setCell (by simp) _).setCell (by simp) _⟩
                case measure => simp [intOf]; omega
              · have hce' : decide ((c : Int) < (ne : Int)) = false := by simp; omega
                have HEA := hideR (show (0 : Int) = Ea ne ez nc (Ln M Z) c by unfold Ea; rw [if_neg hce, if_neg hcn])
                go_wp2
                go_roundw
                case rel => exact ⟨c + 1, by omega, by go_num, HA2.out.setOther (by simp) _, row_fill HB2.out (congrArg (Value.int .i32) HEA.out), by have := HS7.out; simpa [Hid] using this, hb7.setCell (by simp) _⟩
                case measure => simp [intOf]; omega
        · have e : W = c := by omega
          subst e
          obtain ⟨w4, hw4⟩ : ∃ x, x = wr := ⟨_, rfl⟩
          subst hw4
          have HC1 := hideR (row_full HRA.out)
          have HC2 := hideR (row_full HRB.out)
          have hmk := run_make_row' (P := Yba.prog) 32 21 (.int .i32 0) 4 Yba.underlying32 info21 rfl .i64 .i64 W (by omega) (by omega)
          have HM1 := hideR ((World.rowIs_made w4 (.int .i32 0) W 21).alloc (.cells (madeCells #[.int .i32 0] W) 21))
          have HM2 := hideR (World.rowIs_made (w4.alloc (.cells (madeCells #[.int .i32 0] W) 21)) (.int .i32 0) W 21)
          have hbm : Below w4.heap.size w4 ((w4.alloc (.cells (madeCells #[.int .i32 0] W) 21)).alloc (.cells (madeCells #[.int .i32 0] W) 21)) := ((Below.refl _ _).alloc (Nat.le_refl _) _).alloc (by simp) _
          go_upto_region 55 with fail
          simp only [World.size_alloc] at HM1 HM2
          generalize hwm : ((w4.alloc (.cells (madeCells #[.int .i32 0] W) 21)).alloc (.cells (madeCells #[.int .i32 0] W) 21)) = wm at *
          obtain ⟨w5, hrun5, hr5, hg5⟩ := run_copy_full wm 32 3 21 Yba.underlying32 infoS21 w4.heap.size W W (some ⟨w3.heap.size, 0, none⟩) 21 _ (fun c => .int .i32 (La nl lz c)) HM1.out (fun _ => ⟨_, rfl, fun j hj => by rw [add_zero_plain]; exact (rowIs_below HC1.out hbm).cell hj⟩) (fun _ _ => rfl)
          have HM3 := hideR (HM2.out.of_block (hg5.block _ HM2.out.lt (by simp)))
          have HC3 := hideR ((rowIs_below HC2.out hbm).of_block (hg5.block _ (rowIs_below HC2.out hbm).lt (by simp; have := HC2.out.lt; omega)))
          obtain ⟨w6, hrun6, hr6, hg6⟩ := run_copy_full w5 32 3 21 Yba.underlying32 infoS21 (w4.heap.size + 1) W W (some ⟨w3.heap.size + 1, 0, none⟩) 21 _ (fun c => .int .i32 (Ea ne ez nc (Ln M Z) c)) HM3.out (fun _ => ⟨_, rfl, fun j hj => by rw [add_zero_plain]; exact HC3.out.cell hj⟩) (fun _ _ => rfl)
          have HR6 := hideR hr6
          have HRL := hideR (hr5.of_block (hg6.block _ hr5.lt (by simp)))
          have hb56 : Below w4.heap.size w4 w6 := (hbm.grown hg5 hbm.size (fun k hk => by cases hk; exact Nat.le_refl _)).grown hg6 (Nat.le_trans hbm.size hg5.size) (fun k hk => by cases hk; simp)
          clear hr5 hg5 hr6 hg6 HM1 HM2 HM3 HC3 hbm hmk
          go_upto_region 57 with fail
          have hb36 : Below w3.heap.size w3 w6 := hb6.trans (hb56.mono hb6.size)
          have hb26 : Below w2.heap.size w2 w6 := hb5.trans (hb36.mono hb5.size)
          exact cruns_p3 ap nc cpc pb po A M C qb qo Z al nl cl lb lo lz ae ne ce eb eo ez ar nr cr rb ro rz aq np cq qqb qqo pz above wrd w W HI hnc hnr hnp hnl hne hW1 hW2 hW3 HMc n HN hst hst1 w2.heap.size w3.heap.size (w3.heap.size + 1) w4.heap.size (w4.heap.size + 1) w6
            (hideR ⟨(rowIs_below HP.out.ch hb26).congr (fun i hi => by simp [hi]), (rowIs_below HP.out.pl hb26).congr (fun i hi => by simp [hi]), fun i hi => rowIs_below (HP.out.ps i hi) hb26, fun i hi => rowIs_below (HP.out.tx i hi) hb26, rowIs_below HRK5.out hb36, rowIs_below HC1.out hb56, rowIs_below HC2.out hb56, HRL.out, HR6.out⟩)
            (hideR (HBX.out.below hb26)) (hbw.trans (hb26.mono hbw.size)) _ (by assumption)
end Go.Proofs.Ybulkbhpq
