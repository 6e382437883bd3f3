/- LawS2928CRuns (4), its last part: what the model wants, and the comparison. -/
import Derived.Test.YbulkbhpqCRunsA
import Derived.Test.YbulkbhpqCRunsT
import Derived.Deep.Cut
namespace Go.Proofs.Ybulkbhpq
open Go.RowKit
set_option linter.unusedVariables false
set_option linter.unusedSimpArgs false
attribute [local go_sem] alloc_drewN setCell_drewN

set_option maxHeartbeats 8000000 in
set_option maxRecDepth 100000 in
theorem cruns_p6 {u0 u2 u3 u5 u8 u9 u10 u11 u12 u13 u14 u15 u16 u18 u21 u22 u23 u24 u25 u26 u27 u28 u29 u30 u31 u32 u35 u36 u37 u38 u39 u40 u41 u42 u43 u44 u45 u46 u47 u48 u49 u50 u51 u52 u53 u54 u55 u56 u57 u58 u59 u60 u61 u62 u63 u64 u65 u66 u67 u68 u69 u70 u71 u72 u73 u74 u75 u76 u77 u78 u79 u80 u81 u82 u83 u84 u85 u86 u87 u88 u89 u90 u91 u92 u93 u94 u95 u96 u97 u98 u99 u100 u101 u102 u103 u104 u105 u106 u107 u108 u109 u110 u111 u112 u113 u114 u115 u116 u117 u118 u119 u120 u121 u122 u123 u124 u125 u126 u127 u128 u129 u130 u131 u132 u133 u134 u135 u136 u137 u138 u139 u140 u141 u142 u143 u144 u145 u146 u147 u148 u149 u150 u151 u152 u153 u154 u155 u156 u157 u158 u159 u160 u161 u162 u163 u164 u165 u166 u167 u168 u169 u170 u171 u172 u173 u174 u175 u176 u177 u178 u179 u180 u181 u182 u183 u184 u185 u186 u187 u188 u189 u190 u191 u192 u193 u194 u195 u196 u197 u198 u199 u200 u201 u202 u203 u204 u205 u206 u207 u208 u209 u210 u211 u212 u213 u214 u215 u216 u217 u218 u219 u220 u221 u222 u223 u224 u225 u226 u227 u228 u229 u230 u231 u232 u233 u234 u235 u236 u237 u238 u239 u240 u241 u242 u243 u244 u245 u246 u247 u248 u249 u250 u251 u252 u253 u254 u255 u256 u257 u258 u259 u260 u261 u262 u263 u264 u265 u266 u267 u268 u269 u270 u271 u272 u273 u274 u275 u276 u277 u278 u279 u280 u281 u282 u283 u284 u285 u286 u287 u288 u289 u290 u291 u292 u293 u294 u295 u296 u297 u298 u299 u300 u301 u302 u303 u304 u305 u306 u307 u308 u309 u310 u311 u312 u313 u314 u315 u316 u317 u318 u319 u320 u321 u322 u323 u324 u325 u326 u327 u328 u329 u330 u331 u332 u333 u334 u335 u336 u337 u338 u339 u340 u341 u342 u343 u344 u345 u346 u347 u348 u349 u350 u351 u352 u353 u354 u355 u356 u357 u358 u359 u360 u361 u362 u363 u364 u365 u366 u367 u368 u369 u370 u371 u372 u373 u374 u375 u376 u377 u378 u379 u380 u381 u382 u383 u384 u385 u386 u387 u388 u389 u390 u391 u392 u393 u394 u395 u396 u397 u398 u399 u400 : Value}
    (ap : Option Addr) (nc cpc pb po : Nat) (A : Nat → Option Addr) (M C qb qo : Nat → Nat) (Z : Nat → Nat → Nat) (al : Option Addr) (nl cl lb lo : Nat) (lz : Nat → Int) (ae : Option Addr) (ne ce eb eo : Nat) (ez : Nat → Int)
    (ar : Option Addr) (nr cr rb ro : Nat) (rz : Nat → Int) (aq : Option Addr) (np cq qqb qqo : Nat) (pz : Nat → Int) (above : Int) (wrd : Bool) (w : World) (W : Nat)
    (HI : Hid (CIn ap nc pb po A M C qb qo Z al nl lb lo lz ae ne eb eo ez ar nr rb ro rz aq np qqb qqo pz w))
    (hnc : nc ≤ 300) (hnr : nr ≤ 4096) (hnp : np ≤ 4096) (hnl : nl ≤ 9223372036854775807) (hne : ne ≤ 9223372036854775807) (hW1 : 1 ≤ W) (hW2 : nc ≤ W) (hW3 : W ≤ 300) (HMc : Hid (∀ j, j < nc → M j ≤ 300))
    (n : Nat) (HN : Hid (n = Plan.st (Ln M Z) nc)) (hst : n ≤ 400000) (hst1 : 1 ≤ n) (RK RC RD LB EB aa gp BG : Nat) (va : Value) (wF : World) (HP : Hid (Ph3 w.heap.size nc M Z W n nr rz (La nl lz) (Ea ne ez nc (Ln M Z)) RK RC RD LB EB wF))
    (HBX : Hid (BoxAt ap al ae ar aq nc cpc nl cl ne ce nr cr np cq above wrd w.heap.size wF)) (hbw : Below w.heap.size w wF)
    (HG : Hid (Ranks BG gp np ((List.range np).map pz) wF va (Sel.wantTo (numsOf aa w.heap.size W nc n EB LB RK M Z nr rz (La nl lz) (Ea ne ez nc (Ln M Z))) above wrd (fun c => Plan.pl (Z c)) M nc))) (HPR : Hid (wF.rowIs gp 3 np (fun j => .int .i64 (pz j))))
    (K : Act → World → Prop) (hK : ∀ a w1, Code.wp Yba.prog (dropSeq 31 (Yba.f4.body.getD .skip)) (bodyPost Yba.prog Yba.f4 (fun e w' => e = .returned (.bool true) ∧ Below w.heap.size w w')) a w1 → K a w1) :
    Code.wp Yba.prog (headSeq (dropSeq 30 (Yba.f4.body.getD .skip))) (Exit.then K (bodyPost Yba.prog Yba.f4 (fun e w' => e = .returned (.bool true) ∧ Below w.heap.size w w'))) ⟨#[u0, .pointer (some ⟨w.heap.size, 0, none⟩), u2, u3, .int .i64 (nc : Int), u5, .slice (some ⟨w.heap.size + 1, 0, none⟩) nc nc, .slice (some ⟨w.heap.size + 1 + 1, 0, none⟩) nc nc, u8, u9, u10, u11, u12, u13, u14, u15, u16, .slice (some ⟨RK, 0, none⟩) n n, u18, .slice (some ⟨RC, 0, none⟩) W W, .slice (some ⟨RD, 0, none⟩) W W, u21, u22, u23, u24, u25, u26, u27, u28, u29, u30, u31, u32, .slice (some ⟨gp, 0, none⟩) np np, va, u35, u36, u37, u38, u39, u40, u41, u42, u43, u44, u45, u46, u47, u48, u49, u50, u51, u52, u53, u54, u55, u56, u57, u58, u59, u60, u61, u62, u63, u64, u65, u66, u67, u68, u69, u70, u71, u72, u73, u74, u75, u76, u77, u78, u79, u80, u81, u82, u83, u84, u85, u86, u87, u88, u89, u90, u91, u92, u93, u94, u95, u96, u97, u98, u99, u100, u101, u102, u103, u104, u105, u106, u107, u108, u109, u110, u111, u112, u113, u114, u115, u116, u117, u118, u119, u120, u121, u122, u123, u124, u125, u126, u127, u128, u129, u130, u131, u132, u133, u134, u135, u136, u137, u138, u139, u140, u141, u142, u143, u144, u145, u146, u147, u148, u149, u150, u151, u152, u153, u154, u155, u156, u157, u158, u159, u160, u161, u162, u163, u164, u165, u166, u167, u168, u169, u170, u171, u172, u173, u174, u175, u176, u177, u178, u179, u180, u181, u182, u183, u184, u185, u186, u187, u188, u189, u190, u191, u192, u193, u194, u195, u196, u197, u198, u199, u200, u201, u202, u203, u204, u205, u206, u207, u208, u209, u210, u211, u212, u213, u214, u215, u216, u217, u218, u219, u220, u221, u222, u223, u224, u225, u226, u227, u228, u229, u230, u231, u232, u233, u234, u235, u236, u237, u238, u239, u240, u241, u242, u243, u244, u245, u246, u247, u248, u249, u250, u251, u252, u253, u254, u255, u256, u257, u258, u259, u260, u261, u262, u263, u264, u265, u266, u267, u268, u269, u270, u271, u272, u273, u274, u275, u276, u277, u278, u279, u280, u281, u282, u283, u284, u285, u286, u287, u288, u289, u290, u291, u292, u293, u294, u295, u296, u297, u298, u299, u300, u301, u302, u303, u304, u305, u306, u307, u308, u309, u310, u311, u312, u313, u314, u315, u316, u317, u318, u319, u320, u321, u322, u323, u324, u325, u326, u327, u328, u329, u330, u331, u332, u333, u334, u335, u336, u337, u338, u339, u340, u341, u342, u343, u344, u345, u346, u347, u348, u349, u350, u351, u352, u353, u354, u355, u356, u357, u358, u359, u360, u361, u362, u363, u364, u365, u366, u367, u368, u369, u370, u371, u372, u373, u374, u375, u376, u377, u378, u379, u380, u381, u382, u383, u384, u385, u386, u387, u388, u389, u390, u391, u392, u393, u394, u395, u396, u397, u398, u399, u400], []⟩ wF := by
  conv => arg 2; whnf
  conv at hK => intro a w1; arg 1; arg 2; whnf
  have hmk := run_make_row' (P := Yba.prog) 28 3 (.int .i64 0) 8 Yba.underlying28 info3r rfl .i64 .i64 np (by omega) (by omega)
  have HM0 := hideR (World.rowIs_made wF (.int .i64 0) np 3)
  have hbD : Below wF.heap.size wF (wF.alloc (.cells (madeCells #[.int .i64 0] np) 3)) := (Below.refl _ _).alloc (Nat.le_refl _) _
  have b6 : wF.cell? ⟨w.heap.size, 6, none⟩ = some (.slice aq np cq) := HBX.out 6
  go_upto_region 80 with fail
  generalize (wF.alloc (.cells (madeCells #[.int .i64 0] np) 3)) = wD at *
  have b6D := kept hbD b6
  obtain ⟨wE, hrunE, hrE, hgE⟩ := run_copy_full wD 28 3 3 Yba.underlying28 infoS3 wF.heap.size np cq aq 3 _ (fun j => .int .i64 (pz j)) HM0.out (fun h => ⟨⟨qqb, qqo, none⟩, HI.out.hq h, fun j hj => by rw [add_off]; exact kept hbD (kept hbw (HI.out.cq j hj))⟩) (fun _ _ => rfl)
  have hbE : Below wF.heap.size wF wE := hbD.grown hgE hbD.size (fun k hk => by cases hk; exact Nat.le_refl _)
  have HPE := hideR (HP.out.below hbE)
  have HBXE := hideR (HBX.out.below hbE)
  have HGE := hideR (HG.out.below hbE)
  have HPRE := hideR (rowIs_below HPR.out hbE)
  have HWE := hideR hrE
  have hbwE : Below w.heap.size w wE := hbw.trans (hbE.mono hbw.size)
  obtain ⟨D, hDe⟩ : ∃ D, D = numsOf aa w.heap.size W nc n EB LB RK M Z nr rz (La nl lz) (Ea ne ez nc (Ln M Z)) := ⟨_, rfl⟩
  rw [← hDe] at HGE
  have HDe := hideR hDe
  clear hrE hgE hbD HM0 b6 hmk HP HBX HG HPR hbw hDe
  go_wp2
  clear hrunE
  go_loopw [35, 36] (fun v i wx => ∃ c : Nat, c ≤ nc ∧ i = .int .i64 c ∧ Hid (Ranks wE.heap.size wF.heap.size np ((List.range np).map pz) wx v (Sel.wantTo D above wrd (fun c => Plan.pl (Z c)) M c)) ∧ Below wE.heap.size wE wx) (fun _ i _ => nc - (intOf i).toNat)
  case atStart => exact ⟨0, Nat.zero_le _, rfl, .inl ⟨rfl, rfl⟩, Below.refl _ _⟩
  case round =>
    obtain ⟨c, hc, rfl, HK, hbx⟩ := hrel
    by_cases hlt : c < nc
    · have b5 : wr.cell? ⟨w.heap.size, 5, none⟩ = some (.bool wrd) := kept hbx (HBXE.out 5)
      by_cases hskip : wrd = false ∧ c % 2 ≠ 0
      · have HSK := hideR (show Sel.wantTo D above wrd (fun c => Plan.pl (Z c)) M (c + 1) = Sel.wantTo D above wrd (fun c => Plan.pl (Z c)) M c by rw [Sel.wantTo, if_pos hskip])
        obtain ⟨rfl, hpar⟩ := hskip
        have hpb : ((c : Int) % 2 != 0) = true := by simp; omega
        go_wp2
        go_roundw
        case rel => exact ⟨c + 1, by omega, by go_num, by rw [HSK.out]; exact HK, hbx⟩
        case measure => simp [intOf]; omega
      · have HSK := hideR (show Sel.wantTo D above wrd (fun c => Plan.pl (Z c)) M (c + 1) = Sel.wantTo D above wrd (fun c => Plan.pl (Z c)) M c ++ Sel.selTo D above c (Plan.pl (Z c)) (M c) by rw [Sel.wantTo, if_neg hskip])
        have hgd : (wrd = true) ∨ (wrd = false ∧ ((c : Int) % 2 != 0) = false) := by
          cases wrd with
          | true => exact .inl rfl
          | false => exact .inr ⟨rfl, by have : c % 2 = 0 := by simpa using hskip
                                         simp; omega⟩
        obtain ⟨w8, hw8⟩ : ∃ x, x = wr := ⟨_, rfl⟩
        subst hw8
        clear hskip
        have hMc := HMc.out c hlt
        have HS0 := hideR HK
        obtain ⟨wrdx, hwx⟩ : ∃ b, b = wrd := ⟨_, rfl⟩
        rw [← hwx] at HK HSK
        have HWX := hideR hwx
        clear hwx HS0
        rcases hgd with rfl | ⟨rfl, hpb⟩
        all_goals
          go_wp2
          go_loopw [35, 37] (fun v i wx => ∃ k : Nat, k ≤ M c ∧ i = .int .i64 k ∧ Hid (Ranks wE.heap.size wF.heap.size np ((List.range np).map pz) wx v (Sel.wantTo D above wrdx (fun c => Plan.pl (Z c)) M c ++ Sel.selTo D above c (Plan.pl (Z c)) k)) ∧ Below wE.heap.size wE wx) (fun _ i _ => M c - (intOf i).toNat)
          case atStart => exact ⟨0, Nat.zero_le _, rfl, by rw [Sel.selTo, List.append_nil]; exact HK, hbx⟩
          case round =>
            obtain ⟨k, hk, rfl, HU, hbu⟩ := hrel
            have HPx := hideR (HPE.out.below hbu)
            have xpl := HPx.out.pl.cell hlt
            by_cases hlk : k < M c
            · have xps := (HPx.out.ps c hlt).cell hlk
              have xrc := HPx.out.rc.cell (i := c) (by omega)
              have xrd := HPx.out.rd.cell (i := c) (by omega)
              have xch := HPx.out.ch.cell hlt
              have hpL : Plan.pl (Z c) k < Ln M Z c := Plan.pl_lt _ _ _ hlk
              have xtx := (HPx.out.tx c hlt).cell hpL
              have hXn : Plan.st (Ln M Z) c + Plan.pl (Z c) k < n := by rw [HN.out]; exact Plan.txn_lt _ _ _ _ hlt hpL
              have xrk := HPx.out.rk.cell hXn
              have b4 : wr.cell? ⟨w.heap.size, 4, none⟩ = some (.int .i64 above) := kept hbu (HBXE.out 4)
              have HLn : Hid ((Sel.wantTo D above wrdx (fun c => Plan.pl (Z c)) M c ++ Sel.selTo D above c (Plan.pl (Z c)) k).length ≤ 90300) := by
                have h1 := Sel.want_len D above wrdx (fun c => Plan.pl (Z c)) M c (fun i hi => HMc.out i (by omega))
                have h2 := Sel.selTo_len D above c (Plan.pl (Z c)) k
                show _ ≤ 90300
                rw [List.length_append]; omega
              have HWx := hideR (rowIs_below HWE.out hbu)
              have HT := hideR (pick_cases (D := D) (above := above) (c := c) (k := k) (Z := Z) (la := La nl lz c) (ea := Ea ne ez nc (Ln M Z) c) (rk := Rk nr rz (Plan.st (Ln M Z) c + Plan.pl (Z c) k)) (by rw [HDe.out]; rfl) (by rw [HDe.out]; rfl) (by rw [HDe.out]; rfl))
              have hen : Plan.pl (Z c) k ≤ 1200 := by
                have h1 : Ln M Z c ≤ 4 * M c := Plan.en_le (Z c) (M c)
                omega
              have hpi : ((Plan.pl (Z c) k : Nat) : Int) < ((Ln M Z c : Nat) : Int) := by omega
              generalize La nl lz c = la at *
              generalize Ea ne ez nc (Ln M Z) c = ea at *
              generalize hrk : Rk nr rz (Plan.st (Ln M Z) c + Plan.pl (Z c) k) = rkv at *
              clear hrk
              have hXi : ((Plan.st (Ln M Z) c + Plan.pl (Z c) k : Nat) : Int) < (n : Int) := by omega
              generalize hXe : Plan.st (Ln M Z) c + Plan.pl (Z c) k = xx at *
              clear hXe
              generalize hpe : Plan.pl (Z c) k = pp at *
              clear hpe
              clear xpl
              have xpl := HPx.out.pl.cell hlt
              by_cases g1 : la < (pp : Int)
              · have d1 : decide (la < (pp : Int)) = true := by simpa using g1
                by_cases g2 : (pp : Int) < ea
                · have d2 : decide ((pp : Int) < ea) = true := by simpa using g2
                  by_cases g3 : above < rkv
                  · have d3 : decide (above < rkv) = true := by simpa using g3
                    have HSS := hideR (HT.out.1 g1 g2 g3)
                    clear HT
                    go_wp2_with (first
                      | (at_builtin; refine ranks_step (B := wE.heap.size) (gp := wF.heap.size) (np := np) (Pz := (List.range np).map pz) rfl _ _ rfl rfl (by exact (unhideR HU).below ((Below.refl _ _).alloc (Nat.le_refl _) _)) (by simp) (by exact fun j hj => by rw [pz_get pz np j hj]; exact old_cell (HWx.out.cell hj) _) ⟨wr.heap.size, 0, none⟩ rkv rfl ?_ ?_ ?_ ?_)
                      | go_in)
                    · go_simp
                    · exact Nat.le_trans (Nat.add_le_add_right (Nat.add_le_add hnp HLn.out) 1) (by decide)
                    · simp; have := hbu.size; omega
                    · intro v' w9 hrk9 hb9
                      have HK9 := hideR hrk9
                      have hb10 : Below wE.heap.size wE w9 := (hbu.alloc hbu.size _).trans hb9
                      clear hrk9 hb9
                      go_wp2
                      go_roundw
                      case rel => exact ⟨k + 1, by omega, by go_num, by rw [HSS.out]; simpa [Hid] using HK9, hb10⟩
                      case measure => simp [intOf]; omega
                  · have d3 : decide (above < rkv) = false := decide_eq_false g3
                    have HSS := hideR (HT.out.2 (fun h => g3 h.2.2))
                    clear HT
                    go_wp2
                    go_roundw
                    case rel => exact ⟨k + 1, by omega, by go_num, by rw [HSS.out]; exact HU, hbu⟩
                    case measure => simp [intOf]; omega
                · have d2 : decide ((pp : Int) < ea) = false := decide_eq_false g2
                  have HSS := hideR (HT.out.2 (fun h => g2 h.2.1))
                  clear HT
                  go_wp2
                  go_roundw
                  case rel => exact ⟨k + 1, by omega, by go_num, by rw [HSS.out]; exact HU, hbu⟩
                  case measure => simp [intOf]; omega
              · have d1 : decide (la < (pp : Int)) = false := decide_eq_false g1
                have HSS := hideR (HT.out.2 (fun h => g1 h.1))
                clear HT
                go_wp2
                go_roundw
                case rel => exact ⟨k + 1, by omega, by go_num, by rw [HSS.out]; exact HU, hbu⟩
                case measure => simp [intOf]; omega
            · have e : k = M c := by omega
              subst e
              go_wp2
              go_roundw
              case rel => exact ⟨c + 1, by omega, by go_num, by rw [← HWX.out, HSK.out]; exact HU, hbu⟩
              case measure => simp [intOf]; omega
    · have e : nc = c := by omega
      subst e
      have HGx := hideR (HGE.out.below hbx)
      have hpcG : ∀ j, j < np → wr.cell? ⟨gp, j, none⟩ = some (.int .i64 (((List.range np).map pz).getD j 0)) := fun j hj => by rw [pz_get pz np j hj]; exact (rowIs_below HPRE.out hbx).cell hj
      have hpcW : ∀ j, j < np → wr.cell? ⟨wF.heap.size, j, none⟩ = some (.int .i64 (((List.range np).map pz).getD j 0)) := fun j hj => by rw [pz_get pz np j hj]; exact (rowIs_below HWE.out hbx).cell hj
      have hlen : (Sel.wantTo D above wrd (fun c => Plan.pl (Z c)) M nc).length ≤ 90000 := by
        have := Sel.want_len D above wrd (fun c => Plan.pl (Z c)) M nc HMc.out
        omega
      obtain ⟨a1, c1, e1, h1⟩ := ranks_shape HGx.out (by simp) hpcG
      obtain ⟨a2, c2, e2, h2⟩ := ranks_shape HK.out (by simp) hpcW
      have HE1 := hideR (equal_same (w := wr) (a1 := a1) (a2 := a2) (c1 := c1) (c2 := c2) (n := np + (Sel.wantTo D above wrd (fun c => Plan.pl (Z c)) M nc).length) (f := fun j => (((List.range np).map pz) ++ (Sel.wantTo D above wrd (fun c => Plan.pl (Z c)) M nc)).getD j 0) (by omega)
        (fun h => by obtain ⟨g, hg, hc⟩ := h1 h; exact ⟨g, 0, hg, hc⟩) (fun h => by obtain ⟨g, hg, hc⟩ := h2 h; exact ⟨g, 0, hg, hc⟩))
      have HE2 := hideR (fun q => equal_same (w := wr.drewN q) (a1 := some ⟨gp, 0, none⟩) (a2 := aq) (c1 := np) (c2 := cq) (n := np) (f := pz) (by omega)
        (fun h => ⟨gp, 0, rfl, fun j hj => by rw [Nat.zero_add]; exact (rowIs_below HPRE.out hbx).cell hj⟩) (fun h => ⟨qqb, qqo, HI.out.hq h, fun j hj => kept hbx (kept hbwE (HI.out.cq j hj))⟩))
      have b6 : wr.cell? ⟨w.heap.size, 6, none⟩ = some (.slice aq np cq) := kept hbx (HBXE.out 6)
      rw [e1, e2]
      clear h1 h2 e1 e2 hpcG hpcW hlen
      go_wp2_with (first
        | (go_at_call_of 7 a1; refine (unhideR HE1).mono ?_; rintro e w9 ⟨rfl, q, rfl⟩)
        | (go_at_call_of 7 aq; refine (unhideR HE2 _).mono ?_; rintro e w9 ⟨rfl, q2, rfl⟩))
      go_ret
      exact ⟨rfl, below_drewN (hbwE.trans (hbx.mono hbwE.size)) _⟩
end Go.Proofs.Ybulkbhpq
