/- LawS2928AExact (3), its fourth part: the row of reads. -/
import Derived.Test.YbulkbhpqDoorLawA
import Derived.Test.YbulkbhpqDoorP5
import Derived.Test.YbulkbhpqDoorLawC
import Derived.Deep.Cut
namespace Go.Proofs.YbulkbhpqDoor
open Go.RowKit Plain
set_option linter.unusedVariables false
set_option linter.unusedSimpArgs false
attribute [local go_sem] alloc_drewN setCell_drewN

set_option maxHeartbeats 8000000 in
set_option maxRecDepth 100000 in
theorem law_p4 {u0 u2 u3 u4 u5 u6 u10 u11 u12 u13 u15 u16 u17 u18 u19 u20 u21 u24 u25 u26 u28 u29 u30 u31 u32 u33 u34 u35 u36 u37 u38 u39 u40 u41 u42 u43 u44 u45 u46 u47 u48 u49 u50 u51 u52 u53 u54 u55 u56 u57 u58 u59 u60 u61 u62 u63 u64 u65 u66 u67 u68 u69 u70 u71 u72 u73 u74 u75 u76 u77 u78 u79 u80 u81 u82 u83 u84 u85 u86 u87 u88 u89 u90 u91 u92 u93 u94 u95 u96 u97 u98 u99 u100 u101 u102 u103 u104 u105 u106 u107 u108 u109 u110 u111 u112 u113 u114 u115 u116 u117 u118 u119 u120 u121 u122 u123 u124 u125 u126 u127 u128 u129 u130 u131 u132 u133 u134 u135 u136 u137 u138 u139 u140 u141 u142 u143 u144 u145 u146 u147 u148 u149 u150 u151 u152 u153 u154 u155 u156 u157 u158 u159 u160 u161 u162 u163 u164 u165 u166 u167 u168 u169 u170 u171 u172 u173 u174 u175 u176 u177 u178 u179 u180 u181 u182 u183 u184 u185 u186 u187 u188 u189 u190 u191 u192 u193 u194 u195 u196 u197 u198 u199 u200 u201 u202 u203 u204 u205 u206 u207 u208 u209 u210 u211 u212 u213 u214 u215 u216 u217 u218 u219 u220 u221 u222 u223 u224 u225 u226 u227 u228 u229 u230 u231 u232 u233 u234 u235 u236 u237 u238 u239 u240 u241 u242 u243 u244 u245 u246 u247 u248 u249 u250 u251 u252 u253 u254 u255 u256 u257 u258 u259 u260 u261 u262 u263 u264 u265 u266 u267 u268 u269 u270 u271 u272 u273 u274 u275 u276 u277 u278 u279 u280 u281 u282 u283 u284 u285 u286 u287 u288 u289 u290 u291 u292 u293 u294 u295 u296 u297 u298 u299 u300 u301 u302 u303 u304 u305 u306 u307 u308 u309 u310 u311 u312 u313 u314 u315 u316 u317 u318 u319 u320 u321 u322 u323 u324 u325 u326 u327 u328 u329 u330 u331 u332 u333 u334 u335 u336 u337 u338 u339 u340 u341 u342 u343 u344 u345 u346 u347 u348 u349 u350 u351 u352 u353 u354 u355 u356 u357 u358 u359 u360 u361 u362 u363 u364 u365 u366 u367 : Value}
    (aw : Option Addr) (nw cw wbk wo : Nat) (ww : Nat → Nat) (ar : Option Addr) (nr cr rb ro : Nat) (wrt : Nat → Bool) (rat : Nat → Nat) (ia : Nat → Option Addr) (ni ic qb qo : Nat → Nat) (z : Nat → Nat → Nat)
    (ta : Nat → Option Addr) (tn tc tb to : Nat → Nat) (tz : Nat → Nat → Nat) (sa : Nat → Int) (sf : Nat → Bool) (w : World)
    (HI : Hid (CIn aw nw wbk wo ww ar nr rb ro wrt rat ia ni ic qb qo z ta tn tb to tz sa w)) (hnw : nw ≤ 1024) (hnr : nr ≤ 1024) (HNI : Hid (∀ i, i < nr → ni i ≤ 1024)) (HTN : Hid (∀ x, x < 4 → tn x ≤ 1024))
    (ST : Nat) (wA : World) (HBX : Hid (BoxAt ta tn tc sa sf w.heap.size wA)) (HST : Hid (StAt sa sf ST wA)) (hbw : Below w.heap.size w wA)
    (tx : List Nat) (tv : Option Addr) (tcp IW B1 : Nat) (HT : Hid (IntsAt B1 (.slice tv tx.length tcp) tx wA)) (HIW : Hid (wA.rowIs IW 27 4 (fun x => .bool (decide (x ∈ tx))))) (HX1 : Hid (∀ y, y ∈ tx → y < 4)) (hnd : tx.Nodup) (htl : tx.length ≤ 4)
    (IB : Nat) (wb : Nat → Nat) (HIT : Hid (ItemsAt tn tz wb IB wA))
    (K : Act → World → Prop) (hK : ∀ a w1, Code.wp Ybad.prog (dropSeq 12 (Ybad.f3.body.getD .skip)) (bodyPost Ybad.prog Ybad.f3 (fun e w' => e = .returned (.bool true) ∧ Below w.heap.size w w')) a w1 → K a w1) :
    Code.wp Ybad.prog (headSeq (dropSeq 11 (Ybad.f3.body.getD .skip))) (Exit.then K (bodyPost Ybad.prog Ybad.f3 (fun e w' => e = .returned (.bool true) ∧ Below w.heap.size w w'))) ⟨#[u0, .slice ar nr cr, u2, u3, u4, u5, u6, .pointer (some ⟨w.heap.size, 0, none⟩), .pointer (some ⟨w.heap.size + 1, 0, none⟩), .pointer (some ⟨w.heap.size + 2, 0, none⟩), u10, u11, u12, u13, .slice (some ⟨IB, 0, none⟩) 4 4, u15, u16, u17, u18, u19, u20, u21, .slice tv tx.length tcp, .pointer (some ⟨IW, 0, none⟩), u24, u25, u26, .slice (some ⟨ST, 0, none⟩) 4 4, u28, u29, u30, u31, u32, u33, u34, u35, u36, u37, u38, u39, u40, u41, u42, u43, u44, u45, u46, u47, u48, u49, u50, u51, u52, u53, u54, u55, u56, u57, u58, u59, u60, u61, u62, u63, u64, u65, u66, u67, u68, u69, u70, u71, u72, u73, u74, u75, u76, u77, u78, u79, u80, u81, u82, u83, u84, u85, u86, u87, u88, u89, u90, u91, u92, u93, u94, u95, u96, u97, u98, u99, u100, u101, u102, u103, u104, u105, u106, u107, u108, u109, u110, u111, u112, u113, u114, u115, u116, u117, u118, u119, u120, u121, u122, u123, u124, u125, u126, u127, u128, u129, u130, u131, u132, u133, u134, u135, u136, u137, u138, u139, u140, u141, u142, u143, u144, u145, u146, u147, u148, u149, u150, u151, u152, u153, u154, u155, u156, u157, u158, u159, u160, u161, u162, u163, u164, u165, u166, u167, u168, u169, u170, u171, u172, u173, u174, u175, u176, u177, u178, u179, u180, u181, u182, u183, u184, u185, u186, u187, u188, u189, u190, u191, u192, u193, u194, u195, u196, u197, u198, u199, u200, u201, u202, u203, u204, u205, u206, u207, u208, u209, u210, u211, u212, u213, u214, u215, u216, u217, u218, u219, u220, u221, u222, u223, u224, u225, u226, u227, u228, u229, u230, u231, u232, u233, u234, u235, u236, u237, u238, u239, u240, u241, u242, u243, u244, u245, u246, u247, u248, u249, u250, u251, u252, u253, u254, u255, u256, u257, u258, u259, u260, u261, u262, u263, u264, u265, u266, u267, u268, u269, u270, u271, u272, u273, u274, u275, u276, u277, u278, u279, u280, u281, u282, u283, u284, u285, u286, u287, u288, u289, u290, u291, u292, u293, u294, u295, u296, u297, u298, u299, u300, u301, u302, u303, u304, u305, u306, u307, u308, u309, u310, u311, u312, u313, u314, u315, u316, u317, u318, u319, u320, u321, u322, u323, u324, u325, u326, u327, u328, u329, u330, u331, u332, u333, u334, u335, u336, u337, u338, u339, u340, u341, u342, u343, u344, u345, u346, u347, u348, u349, u350, u351, u352, u353, u354, u355, u356, u357, u358, u359, u360, u361, u362, u363, u364, u365, u366, u367], []⟩ wA := by
  conv => arg 2; whnf
  conv at hK => intro a w1; arg 1; arg 2; whnf
  have HND := hideR hnd
  have HTL := hideR htl
  clear hnd htl
  have hmk := make48 nr hnr
  have hbB : Below wA.heap.size wA (wA.alloc (.cells (madeCells #[.bool false, .int .i64 0, .slice none 0 0] (nr * 3)) 48)) := (Below.refl _ _).alloc (Nat.le_refl _) _
  obtain ⟨f0, hR0⟩ := made_row wA #[.bool false, .int .i64 0, .slice none 0 0] (nr * 3) 48
  have HO0 : Hid (OpsTo nr 0 wrt rat ni z (fun _ => 0) wA.heap.size (wA.alloc (.cells (madeCells #[.bool false, .int .i64 0, .slice none 0 0] (nr * 3)) 48))) := hideR ⟨f0, hR0, fun q hq => by omega⟩
  go_upto_region 49 with fail
  clear hmk hR0
  obtain ⟨OP, hOP⟩ : ∃ OP, OP = wA.heap.size := ⟨_, rfl⟩
  have HOE := hideR (show wA.heap.size ≤ OP by omega)
  have HO1 : Hid (OpsTo nr 0 wrt rat ni z (fun _ => 0) OP (wA.alloc (.cells (madeCells #[.bool false, .int .i64 0, .slice none 0 0] (nr * 3)) 48))) := by rw [hOP]; exact HO0
  rw [← hOP]
  clear hOP HO0
  generalize (wA.alloc (.cells (madeCells #[.bool false, .int .i64 0, .slice none 0 0] (nr * 3)) 48)) = wB at *
  go_loopw [169] (fun i wx => ∃ (k : Nat) (ib : Nat → Nat), k ≤ nr ∧ i = .int .i64 k ∧ Hid (OpsTo nr k wrt rat ni z ib OP wx) ∧ Below wA.heap.size wA wx) (fun i _ => nr - (intOf i).toNat)
  case atStart => exact ⟨0, _, by omega, rfl, HO1, hbB⟩
  case round =>
    obtain ⟨k, ib, hk, rfl, HO, hb⟩ := hrel
    clear HO1 hbB
    by_cases hlt : k < nr
    · obtain rfl := HI.out.rp (by omega)
      have hbwx : Below w.heap.size w wr := hbw.trans (hb.mono hbw.size)
      have i1 : (k : Int) < (nr : Int) := by omega
      have c0 := kept hbwx (HI.out.r0 k hlt)
      have c1 := kept hbwx (HI.out.r1 k hlt).1
      have c2 := kept hbwx (HI.out.r2 k hlt)
      have hat0 := (HI.out.r1 k hlt).2
      have hnik := HNI.out k hlt
      obtain ⟨A, hA⟩ : ∃ A, A = ia k := ⟨_, rfl⟩
      rw [← hA] at c2
      have HA := hideR hA
      clear hA
      have hba := (Below.refl wr.heap.size wr).alloc (Nat.le_refl _) (.cells #[.bool (wrt k), .int .u8 (rat k : Int), .slice A (ni k) (ic k)] 29)
      have HOa := hideR (HO.out.below hba)
      have hbb := hb.trans (hba.mono hb.size)
      have HB0 : Hid ((wr.alloc (.cells #[.bool (wrt k), .int .u8 (rat k : Int), .slice A (ni k) (ic k)] 29)).rowIs wr.heap.size 29 3 (fun j => match j with | 0 => .bool (wrt k) | 1 => .int .u8 (rat k : Int) | _ => .slice A (ni k) (ic k))) := hideR (World.rowIs_alloc wr #[.bool (wrt k), .int .u8 (rat k : Int), .slice A (ni k) (ic k)] 29 (fun j => match j with | 0 => .bool (wrt k) | 1 => .int .u8 (rat k : Int) | _ => .slice A (ni k) (ic k)) (fun i hi => by
        match i with
        | 0 | 1 | 2 => rfl
        | n + 3 => simp at hi; omega))
      have hmk := run_make_row' (P := Ybad.prog) 31 3 (.int .i64 0) 8 Ybad.underlying31 info3 rfl .i64 .i64 (ni k) (by omega) (by omega)
      go_upto_region 53 with fail
      clear hmk c0 c1 c2 hba hbwx HO hb
      obtain ⟨O, hO⟩ : ∃ O, O = wr.heap.size := ⟨_, rfl⟩
      have HSI : Hid (O + 1 = (wr.alloc (.cells #[.bool (wrt k), .int .u8 (rat k : Int), .slice A (ni k) (ic k)] 29)).heap.size) := hideR (by rw [hO]; simp)
      rw [← hO] at HB0 ⊢
      clear hO
      generalize (wr.alloc (.cells #[.bool (wrt k), .int .u8 (rat k : Int), .slice A (ni k) (ic k)] 29)) = w0 at *
      clear wr
      obtain ⟨I, hI⟩ : ∃ I, I = O + 1 := ⟨_, rfl⟩
      rw [← hI] at HSI ⊢
      clear hI
      have HR0 : Hid ((w0.alloc (.cells (madeCells #[.int .i64 0] (ni k)) 3)).rowIs I 3 (ni k) (fun _ => .int .i64 0)) := by rw [HSI.out]; exact hideR (World.rowIs_made w0 (.int .i64 0) (ni k) 3)
      have hb1 : Below w0.heap.size w0 (w0.alloc (.cells (madeCells #[.int .i64 0] (ni k)) 3)) := (Below.refl _ _).alloc (Nat.le_refl _) _
      generalize (w0.alloc (.cells (madeCells #[.int .i64 0] (ni k)) 3)) = w1 at *
      go_loopw [181] (fun i wx => ∃ j : Nat, j ≤ ni k ∧ i = .int .i64 j ∧ Hid (wx.rowIs I 3 (ni k) (fun q => if q < j then .int .i64 ((z k q % 4 : Nat) : Int) else .int .i64 0)) ∧ Below w0.heap.size w0 wx) (fun i _ => ni k - (intOf i).toNat)
      case atStart => exact ⟨0, by omega, rfl, hideR (HR0.out.congr (fun j _ => by simp)), hb1⟩
      case round =>
        obtain ⟨j, hj, rfl, HR, hb2⟩ := hrel
        clear HR0 hb1
        have hbw0 : Below w.heap.size w wr := hbw.trans ((hbb.trans (hb2.mono hbb.size)).mono hbw.size)
        by_cases hltj : j < ni k
        · obtain rfl : A = some ⟨qb k, qo k, none⟩ := by rw [HA.out]; exact HI.out.ip k hlt (by omega)
          obtain ⟨cj0, hz5⟩ := HI.out.iz k hlt j hltj
          have cj := kept hbw0 cj0
          have i2 : (j : Int) < (ni k : Int) := by omega
          obtain ⟨x, hx⟩ : ∃ x, x = z k j % 4 := ⟨_, rfl⟩
          have hx4 : x < 4 := by omega
          have hmod : (z k j : Int) % 4 = (x : Int) := by omega
          have hmod2 : (z k j : Int).tmod 4 = (x : Int) := by rw [Int.tmod_eq_emod_of_nonneg (by omega)]; exact hmod
          have rc := HR.out.cell hltj
          have rf := HR.out.frozen j
          have HR2 := hideR (row_fill (f := fun q => .int .i64 ((z k q % 4 : Nat) : Int)) HR.out (v := .int .i64 (x : Int)) (by rw [hx]))
          have hb3 : Below w0.heap.size w0 (wr.setCell ⟨I, j, none⟩ (.int .i64 (x : Int))) := hb2.setCell (by show w0.heap.size ≤ I; rw [HSI.out]; exact Nat.le_refl _) _
          clear cj0 hx
          go_wp2
          go_roundw
          case rel => exact ⟨j + 1, by omega, by go_num, HR2, hb3⟩
          case measure => simp [intOf]; omega
        · obtain rfl : j = ni k := by omega
          have HRk : Hid (wr.rowIs I 3 (ni k) (fun j => .int .i64 ((z k j % 4 : Nat) : Int))) := hideR (HR.out.congr (fun q hq => by simp [hq]))
          have HOk := hideR (HOa.out.below hb2)
          have HBk := hideR (rowIs_below HB0.out hb2)
          have b0 := HBk.out.cell (i := 0) (by omega)
          have b1 : wr.cell? ⟨O, 1, none⟩ = some (.int .u8 (rat k : Int)) := HBk.out.cell (by omega)
          obtain ⟨f, hf, _⟩ := HOk.out
          have e0 := hf.cell (i := k * 3) (by omega)
          have e1 := hf.cell (i := k * 3 + 1) (by omega)
          have e2 := hf.cell (i := k * 3 + 2) (by omega)
          have z0 := hf.frozen (k * 3)
          have z1 := hf.frozen (k * 3 + 1)
          have z2 := hf.frozen (k * 3 + 2)
          have hOO : O ≠ OP := rows_ne HBk.out hf (by decide)
          have HO2 := hideR (HOk.out.step HRk.out)
          have hbx := hbb.trans (hb2.mono hbb.size)
          have hb4 : Below wA.heap.size wA (((wr.setCell ⟨OP, k * 3, none⟩ (.bool (wrt k))).setCell ⟨OP, k * 3 + 1, none⟩ (.int .i64 (rat k : Int))).setCell ⟨OP, k * 3 + 2, none⟩ (.slice (some ⟨I, 0, none⟩) (ni k) (ni k))) := ((hbx.setCell HOE.out _).setCell HOE.out _).setCell HOE.out _
          clear hf HR
          go_wp2
          go_roundw
          case rel => exact ⟨k + 1, _, by omega, by go_num, HO2, hb4⟩
          case measure => simp [intOf]; omega
    · obtain rfl : k = nr := by omega
      go_upto_region 59 with fail
      exact law_p5 aw nw cw wbk wo ww ar k cr rb ro wrt rat ia ni ic qb qo z ta tn tc tb to tz sa sf w HI hnw hnr HNI HTN ST wr (hideR (HBX.out.below hb)) (hideR (rowIs_below HST.out hb)) (hbw.trans (hb.mono hbw.size)) tx tv tcp IW B1 (hideR (HT.out.below hb)) (hideR (rowIs_below HIW.out hb)) HX1 HND.out HTL.out IB wb (hideR (HIT.out.below hb)) OP ib (hideR HO.out.all) _ (by assumption)
end Go.Proofs.YbulkbhpqDoor
