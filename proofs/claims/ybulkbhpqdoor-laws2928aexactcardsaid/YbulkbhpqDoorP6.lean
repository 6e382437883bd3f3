/- LawS2928AExact (3), its sixth part: the law's own model: first reads and the order of reading. -/
import Derived.Test.YbulkbhpqDoorLawA
import Derived.Test.YbulkbhpqDoorP7
import Derived.Deep.Cut
namespace Go.Proofs.YbulkbhpqDoor
open Go.RowKit Plain
set_option linter.unusedVariables false
set_option linter.unusedSimpArgs false
attribute [local go_sem] alloc_drewN setCell_drewN

set_option maxHeartbeats 8000000 in
set_option maxRecDepth 100000 in
theorem law_p6 {u0 u2 u3 u4 u5 u6 u10 u11 u12 u13 u14 u15 u16 u17 u18 u19 u20 u21 u24 u25 u26 u28 u29 u30 u31 u32 u33 u34 u35 u37 u38 u39 u40 u41 u42 u43 u44 u45 u46 u47 u48 u49 u50 u51 u52 u53 u54 u55 u56 u57 u58 u59 u60 u61 u62 u63 u64 u65 u66 u67 u68 u69 u70 u71 u72 u73 u74 u75 u76 u77 u78 u79 u80 u81 u82 u83 u84 u85 u86 u87 u88 u89 u90 u91 u92 u93 u94 u95 u96 u97 u98 u99 u100 u101 u102 u103 u104 u105 u106 u107 u108 u109 u110 u111 u112 u113 u114 u115 u116 u117 u118 u119 u120 u121 u122 u123 u124 u125 u126 u127 u128 u129 u130 u131 u132 u133 u134 u135 u136 u137 u138 u139 u140 u141 u142 u143 u144 u145 u146 u147 u148 u149 u150 u151 u152 u153 u154 u155 u156 u157 u158 u159 u160 u161 u162 u163 u164 u165 u166 u167 u168 u169 u170 u171 u172 u173 u174 u175 u176 u177 u178 u179 u180 u181 u182 u183 u184 u185 u186 u187 u188 u189 u190 u191 u192 u193 u194 u195 u196 u197 u198 u199 u200 u201 u202 u203 u204 u205 u206 u207 u208 u209 u210 u211 u212 u213 u214 u215 u216 u217 u218 u219 u220 u221 u222 u223 u224 u225 u226 u227 u228 u229 u230 u231 u232 u233 u234 u235 u236 u237 u238 u239 u240 u241 u242 u243 u244 u245 u246 u247 u248 u249 u250 u251 u252 u253 u254 u255 u256 u257 u258 u259 u260 u261 u262 u263 u264 u265 u266 u267 u268 u269 u270 u271 u272 u273 u274 u275 u276 u277 u278 u279 u280 u281 u282 u283 u284 u285 u286 u287 u288 u289 u290 u291 u292 u293 u294 u295 u296 u297 u298 u299 u300 u301 u302 u303 u304 u305 u306 u307 u308 u309 u310 u311 u312 u313 u314 u315 u316 u317 u318 u319 u320 u321 u322 u323 u324 u325 u326 u327 u328 u329 u330 u331 u332 u333 u334 u335 u336 u337 u338 u339 u340 u341 u342 u343 u344 u345 u346 u347 u348 u349 u350 u351 u352 u353 u354 u355 u356 u357 u358 u359 u360 u361 u362 u363 u364 u365 u366 u367 : Value}
    (aw : Option Addr) (nw cw wbk wo : Nat) (ww : Nat → Nat) (ar : Option Addr) (nr cr rb ro : Nat) (wrt : Nat → Bool) (rat : Nat → Nat) (ia : Nat → Option Addr) (ni ic qb qo : Nat → Nat) (z : Nat → Nat → Nat)
    (ta : Nat → Option Addr) (tn tc tb to : Nat → Nat) (tz : Nat → Nat → Nat) (sa : Nat → Int) (sf : Nat → Bool) (w : World)
    (HI : Hid (CIn aw nw wbk wo ww ar nr rb ro wrt rat ia ni ic qb qo z ta tn tb to tz sa w)) (hnw : nw ≤ 1024) (hnr : nr ≤ 1024) (HNI : Hid (∀ i, i < nr → ni i ≤ 1024)) (HTN : Hid (∀ x, x < 4 → tn x ≤ 1024))
    (ST : Nat) (wA : World) (HBX : Hid (BoxAt ta tn tc sa sf w.heap.size wA)) (HST : Hid (StAt sa sf ST wA)) (hbw : Below w.heap.size w wA)
    (tx : List Nat) (tv : Option Addr) (tcp g gcap IW B1 B3 : Nat) (HT : Hid (IntsAt B1 (.slice tv tx.length tcp) tx wA)) (HIW : Hid (wA.rowIs IW 27 4 (fun x => .bool (decide (x ∈ tx))))) (HG : Hid (NowAt B3 g gcap ((nowL tx sa sf (outTo tx wrt rat ni (fun i j => z i j % 4) nr)).map (fin1 (fun x a => bestTo (tz x) a (tn x)))) wA)) (HX1 : Hid (∀ y, y ∈ tx → y < 4)) (hnd : tx.Nodup) (htl : tx.length ≤ 4)
    (K : Act → World → Prop) (hK : ∀ a w1, Code.wp Ybad.prog (dropSeq 16 (Ybad.f3.body.getD .skip)) (bodyPost Ybad.prog Ybad.f3 (fun e w' => e = .returned (.bool true) ∧ Below w.heap.size w w')) a w1 → K a w1) :
    Code.wp Ybad.prog (headSeq (dropSeq 15 (Ybad.f3.body.getD .skip))) (Exit.then K (bodyPost Ybad.prog Ybad.f3 (fun e w' => e = .returned (.bool true) ∧ Below w.heap.size w w'))) ⟨#[u0, .slice ar nr cr, u2, u3, u4, u5, u6, .pointer (some ⟨w.heap.size, 0, none⟩), .pointer (some ⟨w.heap.size + 1, 0, none⟩), .pointer (some ⟨w.heap.size + 2, 0, none⟩), u10, u11, u12, u13, u14, u15, u16, u17, u18, u19, u20, u21, .slice tv tx.length tcp, .pointer (some ⟨IW, 0, none⟩), u24, u25, u26, .slice (some ⟨ST, 0, none⟩) 4 4, u28, u29, u30, u31, u32, u33, u34, u35, .slice (some ⟨g, 0, none⟩) (nowL tx sa sf (outTo tx wrt rat ni (fun i j => z i j % 4) nr)).length gcap, u37, u38, u39, u40, u41, u42, u43, u44, u45, u46, u47, u48, u49, u50, u51, u52, u53, u54, u55, u56, u57, u58, u59, u60, u61, u62, u63, u64, u65, u66, u67, u68, u69, u70, u71, u72, u73, u74, u75, u76, u77, u78, u79, u80, u81, u82, u83, u84, u85, u86, u87, u88, u89, u90, u91, u92, u93, u94, u95, u96, u97, u98, u99, u100, u101, u102, u103, u104, u105, u106, u107, u108, u109, u110, u111, u112, u113, u114, u115, u116, u117, u118, u119, u120, u121, u122, u123, u124, u125, u126, u127, u128, u129, u130, u131, u132, u133, u134, u135, u136, u137, u138, u139, u140, u141, u142, u143, u144, u145, u146, u147, u148, u149, u150, u151, u152, u153, u154, u155, u156, u157, u158, u159, u160, u161, u162, u163, u164, u165, u166, u167, u168, u169, u170, u171, u172, u173, u174, u175, u176, u177, u178, u179, u180, u181, u182, u183, u184, u185, u186, u187, u188, u189, u190, u191, u192, u193, u194, u195, u196, u197, u198, u199, u200, u201, u202, u203, u204, u205, u206, u207, u208, u209, u210, u211, u212, u213, u214, u215, u216, u217, u218, u219, u220, u221, u222, u223, u224, u225, u226, u227, u228, u229, u230, u231, u232, u233, u234, u235, u236, u237, u238, u239, u240, u241, u242, u243, u244, u245, u246, u247, u248, u249, u250, u251, u252, u253, u254, u255, u256, u257, u258, u259, u260, u261, u262, u263, u264, u265, u266, u267, u268, u269, u270, u271, u272, u273, u274, u275, u276, u277, u278, u279, u280, u281, u282, u283, u284, u285, u286, u287, u288, u289, u290, u291, u292, u293, u294, u295, u296, u297, u298, u299, u300, u301, u302, u303, u304, u305, u306, u307, u308, u309, u310, u311, u312, u313, u314, u315, u316, u317, u318, u319, u320, u321, u322, u323, u324, u325, u326, u327, u328, u329, u330, u331, u332, u333, u334, u335, u336, u337, u338, u339, u340, u341, u342, u343, u344, u345, u346, u347, u348, u349, u350, u351, u352, u353, u354, u355, u356, u357, u358, u359, u360, u361, u362, u363, u364, u365, u366, u367], []⟩ wA := by
  conv => arg 2; whnf
  conv at hK => intro a w1; arg 1; arg 2; whnf
  have hbB : Below wA.heap.size wA (wA.alloc (.cells #[.int .i64 0, .int .i64 0, .int .i64 0, .int .i64 0] 72)) := (Below.refl _ _).alloc (Nat.le_refl _) _
  have HF0 := hideR (World.rowIs_alloc wA #[.int .i64 0, .int .i64 0, .int .i64 0, .int .i64 0] 72 (fun _ => .int .i64 0) (fun i hi => by
    match i with
    | 0 | 1 | 2 | 3 => rfl
    | n + 4 => simp at hi; omega))
  go_upto_region 63 with fail
  obtain ⟨F, hF⟩ : ∃ F, F = wA.heap.size := ⟨_, rfl⟩
  have HFE := hideR (show wA.heap.size ≤ F by omega)
  rw [← hF]
  have HF1 : Hid ((wA.alloc (.cells #[.int .i64 0, .int .i64 0, .int .i64 0, .int .i64 0] 72)).rowIs F 72 4 (fun _ => .int .i64 0)) := by rw [hF]; exact HF0
  clear HF0 hF
  generalize (wA.alloc (.cells #[.int .i64 0, .int .i64 0, .int .i64 0, .int .i64 0] 72)) = wB at *
  go_loopw [38] (fun i wx => ∃ k : Nat, k ≤ 4 ∧ i = .int .i64 k ∧ Hid (wx.rowIs F 72 4 (fun j => if j < k then .int .i64 (-1) else .int .i64 0)) ∧ Below wA.heap.size wA wx) (fun i _ => 4 - (intOf i).toNat)
  case atStart => exact ⟨0, by omega, rfl, hideR (HF1.out.congr (fun j _ => by simp)), hbB⟩
  case round =>
    obtain ⟨k, hk, rfl, HR, hb⟩ := hrel
    by_cases hlt : k < 4
    · have i1 : (k : Int) < 4 := by omega
      have HR2 := hideR (row_fill (f := fun _ => .int .i64 (-1)) HR.out (v := .int .i64 (-1)) rfl)
      have ff := HR.out.frozen k
      have fc := HR.out.cell (i := k) hlt
      have hb2 : Below wA.heap.size wA (wr.setCell ⟨F, k, none⟩ (.int .i64 (-1))) := hb.setCell HFE.out _
      go_wp2
      go_roundw
      case rel => exact ⟨k + 1, by omega, by go_num, HR2, hb2⟩
      case measure => simp [intOf]; omega
    · obtain rfl : k = 4 := by omega
      obtain ⟨wC, hwC⟩ : ∃ x, x = wr := ⟨_, rfl⟩
      subst hwC
      have HFC : Hid (wC.rowIs F 72 4 (fun x => .int .i64 (st0.fr x))) := hideR (HR.out.congr (fun j hj => by simp [hj, st0]))
      clear HR HF1 hbB
      go_upto_region 68 with fail
      go_loopw [39, 224] (fun rvv i wx => ∃ (k : Nat) (rv : Option Addr) (n rcp : Nat), k ≤ nr ∧ i = .int .i64 k ∧ rvv = .slice rv n rcp ∧ Hid (n = (outTo tx wrt rat ni (fun i j => z i j % 4) k).ro.length) ∧ Hid (IntsAt wA.heap.size (.slice rv n rcp) (outTo tx wrt rat ni (fun i j => z i j % 4) k).ro wx) ∧ Hid (wx.rowIs F 72 4 (fun x => .int .i64 ((outTo tx wrt rat ni (fun i j => z i j % 4) k).fr x))) ∧ Below wA.heap.size wA wx) (fun _ i _ => nr - (intOf i).toNat)
      case atStart => exact ⟨0, none, 0, 0, by omega, rfl, rfl, hideR rfl, hideR (IntsAt.nil _ _), HFC, hb⟩
      case round =>
        obtain ⟨k, rv, n, rcp, hk, rfl, rfl, HL, HRO, HF, hb2⟩ := hrel
        clear HFC hb
        by_cases hlt : k < nr
        · obtain rfl := HI.out.rp (by omega)
          have hbwx : Below w.heap.size w wr := hbw.trans (hb2.mono hbw.size)
          have i1 : (k : Int) < (nr : Int) := by omega
          have c0 := kept hbwx (HI.out.r0 k hlt)
          have c1 := kept hbwx (HI.out.r1 k hlt).1
          have c2 := kept hbwx (HI.out.r2 k hlt)
          obtain ⟨A, hA⟩ : ∃ A, A = ia k := ⟨_, rfl⟩
          rw [← hA] at c2
          have HA := hideR hA
          clear hA
          by_cases hw : wrt k = true
          · have HO := hideR (show (outTo tx wrt rat ni (fun i j => z i j % 4) (k + 1)) = (outTo tx wrt rat ni (fun i j => z i j % 4) k) by rw [outTo, if_pos hw])
            rw [hw] at c0
            have hba := (Below.refl wr.heap.size wr).alloc (Nat.le_refl _) (.cells #[.bool true, .int .u8 (rat k : Int), .slice A (ni k) (ic k)] 29)
            have HROa := hideR (HRO.out.below hba)
            have HFa := hideR (rowIs_below HF.out hba)
            have hbb := hb2.trans (hba.mono hb2.size)
            clear hw hba
            go_wp2
            go_roundw
            case rel => exact ⟨k + 1, rv, n, rcp, by omega, by go_num, rfl, by rw [HO.out]; exact HL, by rw [HO.out]; exact HROa, by rw [HO.out]; exact HFa, hbb⟩
            case measure => simp [intOf]; omega
          · have HO := hideR (show (outTo tx wrt rat ni (fun i j => z i j % 4) (k + 1)) = innTo tx (outTo tx wrt rat ni (fun i j => z i j % 4) k) (rat k : Int) (fun j => z k j % 4) (ni k) by rw [outTo, if_neg hw])
            obtain ⟨sk, hsk⟩ : ∃ sk, sk = (outTo tx wrt rat ni (fun i j => z i j % 4) k) := ⟨_, rfl⟩
            have HInv : Hid (Inv tx sk) := by rw [hsk]; exact hideR (inv_out hnd wrt rat ni (fun i j => z i j % 4) nr (fun i hi => (HI.out.r1 i hi).2) k hk)
            have hro : sk.ro.length ≤ 1048576 := by
              have := out_ro_length tx wrt rat ni (fun i j => z i j % 4) nr 1024 HNI.out k hk
              rw [hsk]; omega
            rw [← hsk] at HL HRO HF HO
            have hat0 := (HI.out.r1 k hlt).2
            have hnik := HNI.out k hlt
            have hw' : wrt k = false := by simpa using hw
            rw [hw'] at c0
            have hba := (Below.refl wr.heap.size wr).alloc (Nat.le_refl _) (.cells #[.bool false, .int .u8 (rat k : Int), .slice A (ni k) (ic k)] 29)
            have HROa := hideR (HRO.out.below hba)
            have HFa := hideR (rowIs_below HF.out hba)
            have hbb := hb2.trans (hba.mono hb2.size)
            have HOP := hideR (World.rowIs_alloc wr #[.bool false, .int .u8 (rat k : Int), .slice A (ni k) (ic k)] 29 (fun j => match j with | 0 => .bool false | 1 => .int .u8 (rat k : Int) | _ => .slice A (ni k) (ic k)) (fun i hi => by
              match i with
              | 0 | 1 | 2 => rfl
              | n + 3 => simp at hi; omega))
            go_upto_region 72 with fail
            clear hw hw' c0 c1 c2 hsk HRO HF hb2 hba hbwx
            obtain ⟨O, hOe⟩ : ∃ O, O = wr.heap.size := ⟨_, rfl⟩
            rw [← hOe] at HOP ⊢
            generalize (wr.alloc (.cells #[.bool false, .int .u8 (rat k : Int), .slice A (ni k) (ic k)] 29)) = wD at *
            clear hOe wr
            go_loopw [39, 233] (fun rvv i wx => ∃ (j : Nat) (rv : Option Addr) (n rcp : Nat), j ≤ ni k ∧ i = .int .i64 j ∧ rvv = .slice rv n rcp ∧ Hid (n = (innTo tx sk (rat k : Int) (fun j => z k j % 4) j).ro.length) ∧ Hid (IntsAt wA.heap.size (.slice rv n rcp) (innTo tx sk (rat k : Int) (fun j => z k j % 4) j).ro wx) ∧ Hid (wx.rowIs F 72 4 (fun x => .int .i64 ((innTo tx sk (rat k : Int) (fun j => z k j % 4) j).fr x))) ∧ Hid (wx.rowIs O 29 3 (fun j => match j with | 0 => .bool false | 1 => .int .u8 (rat k : Int) | _ => .slice A (ni k) (ic k))) ∧ Below wA.heap.size wA wx) (fun _ i _ => ni k - (intOf i).toNat)
            case atStart => exact ⟨0, rv, n, rcp, by omega, rfl, rfl, HL, HROa, HFa, HOP, hbb⟩
            case round =>
              obtain ⟨j, rv3, n3, rcp3, hj, rfl, rfl, HL3, HR3, HF3, HO3, hb3⟩ := hrel
              clear HROa HFa HOP hbb
              have hbwx : Below w.heap.size w wr := hbw.trans (hb3.mono hbw.size)
              by_cases hltj : j < ni k
              · obtain rfl : A = some ⟨qb k, qo k, none⟩ := by rw [HA.out]; exact HI.out.ip k hlt (by omega)
                obtain ⟨cj0, hz5⟩ := HI.out.iz k hlt j hltj
                have cj := kept hbwx cj0
                have i2 : (j : Int) < (ni k : Int) := by omega
                obtain ⟨x, hx⟩ : ∃ x, x = z k j % 4 := ⟨_, rfl⟩
                have hx4 : x < 4 := by omega
                obtain ⟨S, hS⟩ : ∃ S, S = innTo tx sk (rat k : Int) (fun j => z k j % 4) j := ⟨_, rfl⟩
                have HIN := hideR (show innTo tx sk (rat k : Int) (fun j => z k j % 4) (j + 1) = stp tx S x (rat k : Int) by rw [innTo, hx, hS])
                have hSl : S.ro.length ≤ 2000000 := by
                  have := inn_ro_length tx sk (rat k : Int) (fun j => z k j % 4) j
                  rw [hS]; omega
                rw [← hS] at HL3 HR3 HF3
                have fc := HF3.out.cell hx4
                have ff := HF3.out.frozen x
                have iw : wr.cell? ⟨IW, x, none⟩ = some (.bool (decide (x ∈ tx))) := kept hb3 (HIW.out.cell hx4)
                have oat : wr.cell? ⟨O, 1, none⟩ = some (.int .u8 (rat k : Int)) := HO3.out.cell (by omega)
                have hmod : (z k j : Int) % 4 = (x : Int) := by omega
                have hmod2 : (z k j : Int).tmod 4 = (x : Int) := by rw [Int.tmod_eq_emod_of_nonneg (by omega)]; exact hmod
                clear hS cj0
                have i3 : (x : Int) < 4 := by omega
                obtain ⟨a, haa⟩ : ∃ a, a = S.fr x := ⟨_, rfl⟩
                rw [← haa] at fc
                have HSA := hideR haa
                clear haa hx
                by_cases h1 : a < 0
                · have t1 : decide (a < 0) = true := by simpa using h1
                  have HF4 : Hid ((wr.setCell ⟨F, x, none⟩ (.int .i64 (rat k : Int))).rowIs F 72 4 (fun y => .int .i64 ((stp tx S x (rat k : Int)).fr y))) := hideR ((HF3.out.set x (.int .i64 (rat k : Int))).congr (fun y _ => by
                    show (if y = x then Value.int .i64 (rat k : Int) else .int .i64 (S.fr y)) = .int .i64 ((stp tx S x (rat k : Int)).fr y)
                    rw [stp_fr (by rw [← HSA.out]; exact h1)]
                    split <;> rfl))
                  have HR4 := hideR (HR3.out.set HF3.out (by decide) x (.int .i64 (rat k : Int)))
                  have HO4 := hideR (HO3.out.setOther (a := ⟨F, x, none⟩) (rows_ne HO3.out HF3.out (by decide)) (.int .i64 (rat k : Int)))
                  have hb4 : Below wA.heap.size wA (wr.setCell ⟨F, x, none⟩ (.int .i64 (rat k : Int))) := hb3.setCell HFE.out _
                  have iw4 : (wr.setCell ⟨F, x, none⟩ (.int .i64 (rat k : Int))).cell? ⟨IW, x, none⟩ = some (.bool (decide (x ∈ tx))) := kept hb4 (HIW.out.cell hx4)
                  go_upto_region 77 with fail
                  clear fc ff iw oat cj hb3 HF3 HR3 HO3 hbwx
                  generalize (wr.setCell ⟨F, x, none⟩ (.int .i64 (rat k : Int))) = w4 at *
                  by_cases h2 : x ∈ tx
                  · have iw5 : w4.cell? ⟨IW, x, none⟩ = some (.bool true) := by rw [iw4]; simp [h2]
                    have HST2 := hideR (stp_in (rat k : Int) (show S.fr x < 0 by rw [← HSA.out]; exact h1) h2)
                    clear iw4 h2
                    go_wp2
                    go_roundw
                    case rel => exact ⟨j + 1, rv3, n3, rcp3, by omega, by go_num, rfl, by rw [HIN.out, HST2.out]; exact HL3, by rw [HIN.out, HST2.out]; exact HR4, by rw [HIN.out]; exact HF4, HO4, hb4⟩
                    case measure => simp [intOf]; omega
                  · have iw5 : w4.cell? ⟨IW, x, none⟩ = some (.bool false) := by rw [iw4]; simp [h2]
                    have HST2 := hideR (stp_out (rat k : Int) (show S.fr x < 0 by rw [← HSA.out]; exact h1) h2)
                    have hB4 := hb4.size
                    clear iw4 h2
                    go_wp2_with (first
                      | (at_builtin; refine wp_append_int rfl _ _ rfl wA.heap.size (.slice rv3 n3 rcp3) S.ro n3 HL3.out rfl HR4.out x w4.heap.size rfl rfl (by omega) hB4 ?_)
                      | go_in)
                    intro g' cap' w5 hN5 hoth hb5
                    have HF5 := hideR (HF4.out.of_block (hoth _ HF4.out.lt (HR4.out.ne HF4.out (by decide))))
                    have HO5 := hideR (HO4.out.of_block (hoth _ HO4.out.lt (HR4.out.ne HO4.out (by decide))))
                    have HR5 := hideR hN5
                    have hb6 := hb4.trans hb5
                    clear hN5 hoth hb5 HF4 HO4 HR4 hb4
                    go_wp2
                    go_roundw
                    case rel => (repeat apply Exists.intro); exact ⟨⟨j + 1, some ⟨g', 0, none⟩, n3 + 1, cap', by omega, by go_num, rfl, by rw [HIN.out, HST2.out, List.length_append]; exact hideR (by have := HL3.out; simp; omega), by rw [HIN.out, HST2.out]; exact HR5, by rw [HIN.out]; exact HF5, HO5, hb6⟩, rfl⟩
                    case measure => simp [intOf]; omega
                · have t1 : decide (a < 0) = false := by simpa using h1
                  have HST2 := hideR (show stp tx S x (rat k : Int) = S by unfold stp; rw [if_neg (by rw [← HSA.out]; exact h1)])
                  go_wp2
                  go_roundw
                  case rel => exact ⟨j + 1, rv3, n3, rcp3, by omega, by go_num, rfl, by rw [HIN.out, HST2.out]; exact HL3, by rw [HIN.out, HST2.out]; exact HR3, by rw [HIN.out, HST2.out]; exact HF3, HO3, hb3⟩
                  case measure => simp [intOf]; omega
              · obtain rfl : j = ni k := by omega
                go_wp2
                go_roundw
                case rel => exact ⟨k + 1, rv3, n3, rcp3, by omega, by go_num, rfl, by rw [HO.out]; exact HL3, by rw [HO.out]; exact HR3, by rw [HO.out]; exact HF3, hb3⟩
                case measure => simp [intOf]; omega
        · obtain rfl : k = nr := by omega
          obtain rfl := HL.out
          go_upto_region 81 with fail
          have hbwx : Below w.heap.size w wr := hbw.trans (hb2.mono hbw.size)
          have hrl : (outTo tx wrt rat ni (fun i j => z i j % 4) k).ro.length ≤ 2000000 := by
            have := out_ro_length tx wrt rat ni (fun i j => z i j % 4) k 1024 HNI.out k (Nat.le_refl _)
            omega
          exact law_p7 aw nw cw wbk wo ww ar k cr rb ro wrt rat ia ni ic qb qo z ta tn tc tb to tz sa sf w HI hnw hnr HNI HTN ST wr (hideR (HBX.out.below hb2)) (hideR (rowIs_below HST.out hb2)) hbwx tx tv tcp (outTo tx wrt rat ni (fun i j => z i j % 4) k) rv rcp g gcap F B1 wA.heap.size B3 (hideR (HT.out.below hb2)) HRO HF (hideR (HG.out.below hb2)) HX1 (hideR (out_ro_lt tx wrt rat ni (fun i j => z i j % 4) k (fun i _ j _ => Nat.mod_lt _ (by omega)) k (Nat.le_refl _))) (hideR (inv_out hnd wrt rat ni (fun i j => z i j % 4) k (fun i hi => (HI.out.r1 i hi).2) k (Nat.le_refl _))) (by omega) hrl _ (by assumption) _ (by assumption)
end Go.Proofs.YbulkbhpqDoor
