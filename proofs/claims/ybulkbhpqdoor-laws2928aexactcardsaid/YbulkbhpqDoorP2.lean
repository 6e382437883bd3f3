/- LawS2928AExact (3), its second part: the written items, each once. -/
import Derived.Test.YbulkbhpqDoorLawA
import Derived.Test.YbulkbhpqDoorP3
import Derived.Deep.Cut
namespace Go.Proofs.YbulkbhpqDoor
open Go.RowKit Plain
set_option linter.unusedVariables false
set_option linter.unusedSimpArgs false
attribute [local go_sem] alloc_drewN setCell_drewN

set_option maxHeartbeats 8000000 in
set_option maxRecDepth 100000 in
theorem law_p2 {u2 u3 u4 u5 u6 u10 u11 u12 u13 u15 u16 u17 u18 u19 u20 u21 u22 u23 u24 u25 u26 u27 u28 u29 u30 u31 u32 u33 u34 u35 u36 u37 u38 u39 u40 u41 u42 u43 u44 u45 u46 u47 u48 u49 u50 u51 u52 u53 u54 u55 u56 u57 u58 u59 u60 u61 u62 u63 u64 u65 u66 u67 u68 u69 u70 u71 u72 u73 u74 u75 u76 u77 u78 u79 u80 u81 u82 u83 u84 u85 u86 u87 u88 u89 u90 u91 u92 u93 u94 u95 u96 u97 u98 u99 u100 u101 u102 u103 u104 u105 u106 u107 u108 u109 u110 u111 u112 u113 u114 u115 u116 u117 u118 u119 u120 u121 u122 u123 u124 u125 u126 u127 u128 u129 u130 u131 u132 u133 u134 u135 u136 u137 u138 u139 u140 u141 u142 u143 u144 u145 u146 u147 u148 u149 u150 u151 u152 u153 u154 u155 u156 u157 u158 u159 u160 u161 u162 u163 u164 u165 u166 u167 u168 u169 u170 u171 u172 u173 u174 u175 u176 u177 u178 u179 u180 u181 u182 u183 u184 u185 u186 u187 u188 u189 u190 u191 u192 u193 u194 u195 u196 u197 u198 u199 u200 u201 u202 u203 u204 u205 u206 u207 u208 u209 u210 u211 u212 u213 u214 u215 u216 u217 u218 u219 u220 u221 u222 u223 u224 u225 u226 u227 u228 u229 u230 u231 u232 u233 u234 u235 u236 u237 u238 u239 u240 u241 u242 u243 u244 u245 u246 u247 u248 u249 u250 u251 u252 u253 u254 u255 u256 u257 u258 u259 u260 u261 u262 u263 u264 u265 u266 u267 u268 u269 u270 u271 u272 u273 u274 u275 u276 u277 u278 u279 u280 u281 u282 u283 u284 u285 u286 u287 u288 u289 u290 u291 u292 u293 u294 u295 u296 u297 u298 u299 u300 u301 u302 u303 u304 u305 u306 u307 u308 u309 u310 u311 u312 u313 u314 u315 u316 u317 u318 u319 u320 u321 u322 u323 u324 u325 u326 u327 u328 u329 u330 u331 u332 u333 u334 u335 u336 u337 u338 u339 u340 u341 u342 u343 u344 u345 u346 u347 u348 u349 u350 u351 u352 u353 u354 u355 u356 u357 u358 u359 u360 u361 u362 u363 u364 u365 u366 u367 : Value}
    (aw : Option Addr) (nw cw wbk wo : Nat) (ww : Nat → Nat) (ar : Option Addr) (nr cr rb ro : Nat) (wrt : Nat → Bool) (rat : Nat → Nat) (ia : Nat → Option Addr) (ni ic qb qo : Nat → Nat) (z : Nat → Nat → Nat)
    (ta : Nat → Option Addr) (tn tc tb to : Nat → Nat) (tz : Nat → Nat → Nat) (sa : Nat → Int) (sf : Nat → Bool) (w : World)
    (HI : Hid (CIn aw nw wbk wo ww ar nr rb ro wrt rat ia ni ic qb qo z ta tn tb to tz sa w)) (hnw : nw ≤ 1024) (hnr : nr ≤ 1024) (HNI : Hid (∀ i, i < nr → ni i ≤ 1024)) (HTN : Hid (∀ x, x < 4 → tn x ≤ 1024))
    (wA : World) (HBX : Hid (BoxAt ta tn tc sa sf w.heap.size wA)) (hbw : Below w.heap.size w wA)
    (IB : Nat) (wb : Nat → Nat) (HIT : Hid (ItemsAt tn tz wb IB wA))
    (K : Act → World → Prop) (hK : ∀ a w1, Code.wp Ybad.prog (dropSeq 7 (Ybad.f3.body.getD .skip)) (bodyPost Ybad.prog Ybad.f3 (fun e w' => e = .returned (.bool true) ∧ Below w.heap.size w w')) a w1 → K a w1) :
    Code.wp Ybad.prog (headSeq (dropSeq 6 (Ybad.f3.body.getD .skip))) (Exit.then K (bodyPost Ybad.prog Ybad.f3 (fun e w' => e = .returned (.bool true) ∧ Below w.heap.size w w'))) ⟨#[.slice aw nw cw, .slice ar nr cr, u2, u3, u4, u5, u6, .pointer (some ⟨w.heap.size, 0, none⟩), .pointer (some ⟨w.heap.size + 1, 0, none⟩), .pointer (some ⟨w.heap.size + 2, 0, none⟩), u10, u11, u12, u13, .slice (some ⟨IB, 0, none⟩) 4 4, u15, u16, u17, u18, u19, u20, u21, u22, u23, u24, u25, u26, u27, u28, u29, u30, u31, u32, u33, u34, u35, u36, u37, u38, u39, u40, u41, u42, u43, u44, u45, u46, u47, u48, u49, u50, u51, u52, u53, u54, u55, u56, u57, u58, u59, u60, u61, u62, u63, u64, u65, u66, u67, u68, u69, u70, u71, u72, u73, u74, u75, u76, u77, u78, u79, u80, u81, u82, u83, u84, u85, u86, u87, u88, u89, u90, u91, u92, u93, u94, u95, u96, u97, u98, u99, u100, u101, u102, u103, u104, u105, u106, u107, u108, u109, u110, u111, u112, u113, u114, u115, u116, u117, u118, u119, u120, u121, u122, u123, u124, u125, u126, u127, u128, u129, u130, u131, u132, u133, u134, u135, u136, u137, u138, u139, u140, u141, u142, u143, u144, u145, u146, u147, u148, u149, u150, u151, u152, u153, u154, u155, u156, u157, u158, u159, u160, u161, u162, u163, u164, u165, u166, u167, u168, u169, u170, u171, u172, u173, u174, u175, u176, u177, u178, u179, u180, u181, u182, u183, u184, u185, u186, u187, u188, u189, u190, u191, u192, u193, u194, u195, u196, u197, u198, u199, u200, u201, u202, u203, u204, u205, u206, u207, u208, u209, u210, u211, u212, u213, u214, u215, u216, u217, u218, u219, u220, u221, u222, u223, u224, u225, u226, u227, u228, u229, u230, u231, u232, u233, u234, u235, u236, u237, u238, u239, u240, u241, u242, u243, u244, u245, u246, u247, u248, u249, u250, u251, u252, u253, u254, u255, u256, u257, u258, u259, u260, u261, u262, u263, u264, u265, u266, u267, u268, u269, u270, u271, u272, u273, u274, u275, u276, u277, u278, u279, u280, u281, u282, u283, u284, u285, u286, u287, u288, u289, u290, u291, u292, u293, u294, u295, u296, u297, u298, u299, u300, u301, u302, u303, u304, u305, u306, u307, u308, u309, u310, u311, u312, u313, u314, u315, u316, u317, u318, u319, u320, u321, u322, u323, u324, u325, u326, u327, u328, u329, u330, u331, u332, u333, u334, u335, u336, u337, u338, u339, u340, u341, u342, u343, u344, u345, u346, u347, u348, u349, u350, u351, u352, u353, u354, u355, u356, u357, u358, u359, u360, u361, u362, u363, u364, u365, u366, u367], []⟩ wA := by
  conv => arg 2; whnf
  conv at hK => intro a w1; arg 1; arg 2; whnf
  have HX1 : Hid (∀ k, ∀ y, y ∈ (txTo (fun q => ww q % 4) k) → y < 4) := hideR (fun k => tx_lt _ (fun q => Nat.mod_lt _ (by omega)) k)
  have HTL : Hid (∀ k, (txTo (fun q => ww q % 4) k).length ≤ 4) := hideR (fun k => tx_len _ (fun q => Nat.mod_lt _ (by omega)) k)
  have hbB : Below wA.heap.size wA (wA.alloc (.cells #[.bool false, .bool false, .bool false, .bool false] 27)) := (Below.refl _ _).alloc (Nat.le_refl _) _
  have HF0 : Hid ((wA.alloc (.cells #[.bool false, .bool false, .bool false, .bool false] 27)).rowIs wA.heap.size 27 4 (fun x => .bool (decide (x ∈ (txTo (fun q => ww q % 4) 0))))) := hideR (World.rowIs_alloc wA #[.bool false, .bool false, .bool false, .bool false] 27 _ (fun i hi => by
    match i with
    | 0 | 1 | 2 | 3 => rfl
    | n + 4 => simp at hi; omega))
  go_upto_region 35 with fail
  obtain ⟨IW, hIW⟩ : ∃ IW, IW = wA.heap.size := ⟨_, rfl⟩
  have HOE := hideR (show wA.heap.size ≤ IW by omega)
  rw [← hIW]
  have HF1 : Hid ((wA.alloc (.cells #[.bool false, .bool false, .bool false, .bool false] 27)).rowIs IW 27 4 (fun x => .bool (decide (x ∈ (txTo (fun q => ww q % 4) 0))))) := by rw [hIW]; exact HF0
  clear HF0 hIW
  generalize (wA.alloc (.cells #[.bool false, .bool false, .bool false, .bool false] 27)) = wB at *
  go_loopw [22, 130] (fun tvv i wx => ∃ (k : Nat) (tv : Option Addr) (n tcp : Nat), k ≤ nw ∧ i = .int .i64 k ∧ tvv = .slice tv n tcp ∧ Hid (n = (txTo (fun q => ww q % 4) k).length) ∧ Hid (IntsAt wA.heap.size (.slice tv n tcp) (txTo (fun q => ww q % 4) k) wx) ∧ Hid (wx.rowIs IW 27 4 (fun x => .bool (decide (x ∈ (txTo (fun q => ww q % 4) k))))) ∧ Below wA.heap.size wA wx) (fun _ i _ => nw - (intOf i).toNat)
  case atStart => exact ⟨0, none, 0, 0, by omega, rfl, rfl, hideR rfl, hideR (IntsAt.nil _ _), HF1, hbB⟩
  case round =>
    obtain ⟨k, tv, n, tcp, hk, rfl, rfl, HL, HRO, HF, hb⟩ := hrel
    clear HF1 hbB
    by_cases hlt : k < nw
    · obtain rfl := HI.out.wp (by omega)
      have hbwx : Below w.heap.size w wr := hbw.trans (hb.mono hbw.size)
      have i1 : (k : Int) < (nw : Int) := by omega
      obtain ⟨c00, hz5⟩ := HI.out.wc k hlt
      have c0 := kept hbwx c00
      obtain ⟨x, hx⟩ : ∃ x, x = ww k % 4 := ⟨_, rfl⟩
      have hx4 : x < 4 := by omega
      have i3 : (x : Int) < 4 := by omega
      have hmod : (ww k : Int) % 4 = (x : Int) := by omega
      have hmod2 : (ww k : Int).tmod 4 = (x : Int) := by rw [Int.tmod_eq_emod_of_nonneg (by omega)]; exact hmod
      obtain ⟨S, hS⟩ : ∃ S, S = (txTo (fun q => ww q % 4) k) := ⟨_, rfl⟩
      have HIN := hideR (show (txTo (fun q => ww q % 4) (k + 1)) = if x ∈ S then S else S ++ [x] by rw [txTo, hx, hS])
      have hSl : S.length ≤ 4 := by rw [hS]; exact HTL.out k
      rw [← hS] at HL HRO HF
      have fc := HF.out.cell hx4
      have ff := HF.out.frozen x
      clear hS c00 hx
      by_cases h2 : x ∈ S
      · rw [decide_eq_true h2] at fc
        have HST2 := hideR (show (txTo (fun q => ww q % 4) (k + 1)) = S by rw [HIN.out, if_pos h2])
        clear h2
        go_wp2
        go_roundw
        case rel => exact ⟨k + 1, tv, n, tcp, by omega, by go_num, rfl, by rw [HST2.out]; exact HL, by rw [HST2.out]; exact HRO, by rw [HST2.out]; exact HF, hb⟩
        case measure => simp [intOf]; omega
      · rw [decide_eq_false h2] at fc
        have HST2 := hideR (show (txTo (fun q => ww q % 4) (k + 1)) = S ++ [x] by rw [HIN.out, if_neg h2])
        have HF4 : Hid ((wr.setCell ⟨IW, x, none⟩ (.bool true)).rowIs IW 27 4 (fun y => .bool (decide (y ∈ S ++ [x])))) := hideR ((HF.out.set x (.bool true)).congr (fun y _ => by
          by_cases e : y = x
          · subst e; simp
          · simp [e]))
        have HR4 := hideR (HRO.out.set HF.out (by decide) x (.bool true))
        have hb4 : Below wA.heap.size wA (wr.setCell ⟨IW, x, none⟩ (.bool true)) := hb.setCell HOE.out _
        clear h2
        go_upto_region 40 with fail
        clear fc ff c0 hb HF HRO hbwx
        generalize (wr.setCell ⟨IW, x, none⟩ (.bool true)) = w4 at *
        have hB4 := hb4.size
        go_wp2_with (first
          | (at_builtin; refine wp_append_int rfl _ _ rfl wA.heap.size (.slice tv n tcp) S n HL.out rfl HR4.out x w4.heap.size rfl rfl (by omega) hB4 ?_)
          | go_in)
        intro g' cap' w5 hN5 hoth hb5
        have HF5 := hideR (HF4.out.of_block (hoth _ HF4.out.lt (HR4.out.ne HF4.out (by decide))))
        have HR5 := hideR hN5
        have hb6 := hb4.trans hb5
        clear hN5 hoth hb5 HF4 HR4 hb4
        go_wp2
        go_roundw
        case rel => exact ⟨k + 1, some ⟨g', 0, none⟩, n + 1, cap', by omega, by go_num, rfl, by rw [HST2.out, List.length_append]; exact hideR (by have := HL.out; simp; omega), by rw [HST2.out]; exact HR5, by rw [HST2.out]; exact HF5, hb6⟩
        case measure => simp [intOf]; omega
    · obtain rfl : k = nw := by omega
      obtain rfl := HL.out
      go_upto_region 42 with fail
      exact law_p3 aw k cw wbk wo ww ar nr cr rb ro wrt rat ia ni ic qb qo z ta tn tc tb to tz sa sf w HI hnw hnr HNI HTN wr (hideR (HBX.out.below hb)) (hbw.trans (hb.mono hbw.size)) (txTo (fun q => ww q % 4) k) tv tcp IW wA.heap.size HRO HF (hideR (HX1.out k)) (tx_nodup _ k) (HTL.out k) IB wb (hideR (HIT.out.below hb)) _ (by assumption)
end Go.Proofs.YbulkbhpqDoor
