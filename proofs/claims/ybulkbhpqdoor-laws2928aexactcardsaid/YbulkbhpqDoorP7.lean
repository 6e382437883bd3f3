/- LawS2928AExact (3), its seventh part: what after handed back is what the model says. -/
import Derived.Test.YbulkbhpqDoorLawA
import Derived.Test.YbulkbhpqDoorP8
import Derived.Test.YbulkbhpqDoorLawB
import Derived.Deep.Cut
namespace Go.Proofs.YbulkbhpqDoor
open Go.RowKit Plain
set_option linter.unusedVariables false
set_option linter.unusedSimpArgs false
attribute [local go_sem] alloc_drewN setCell_drewN

set_option maxHeartbeats 8000000 in
set_option maxRecDepth 100000 in
theorem law_p7 {u0 u1 u2 u3 u4 u5 u6 u10 u11 u12 u13 u14 u15 u16 u17 u18 u19 u20 u21 u23 u24 u25 u26 u28 u29 u30 u31 u32 u33 u34 u35 u38 u40 u41 u42 u43 u44 u45 u46 u47 u48 u49 u50 u51 u52 u53 u54 u55 u56 u57 u58 u59 u60 u61 u62 u63 u64 u65 u66 u67 u68 u69 u70 u71 u72 u73 u74 u75 u76 u77 u78 u79 u80 u81 u82 u83 u84 u85 u86 u87 u88 u89 u90 u91 u92 u93 u94 u95 u96 u97 u98 u99 u100 u101 u102 u103 u104 u105 u106 u107 u108 u109 u110 u111 u112 u113 u114 u115 u116 u117 u118 u119 u120 u121 u122 u123 u124 u125 u126 u127 u128 u129 u130 u131 u132 u133 u134 u135 u136 u137 u138 u139 u140 u141 u142 u143 u144 u145 u146 u147 u148 u149 u150 u151 u152 u153 u154 u155 u156 u157 u158 u159 u160 u161 u162 u163 u164 u165 u166 u167 u168 u169 u170 u171 u172 u173 u174 u175 u176 u177 u178 u179 u180 u181 u182 u183 u184 u185 u186 u187 u188 u189 u190 u191 u192 u193 u194 u195 u196 u197 u198 u199 u200 u201 u202 u203 u204 u205 u206 u207 u208 u209 u210 u211 u212 u213 u214 u215 u216 u217 u218 u219 u220 u221 u222 u223 u224 u225 u226 u227 u228 u229 u230 u231 u232 u233 u234 u235 u236 u237 u238 u239 u240 u241 u242 u243 u244 u245 u246 u247 u248 u249 u250 u251 u252 u253 u254 u255 u256 u257 u258 u259 u260 u261 u262 u263 u264 u265 u266 u267 u268 u269 u270 u271 u272 u273 u274 u275 u276 u277 u278 u279 u280 u281 u282 u283 u284 u285 u286 u287 u288 u289 u290 u291 u292 u293 u294 u295 u296 u297 u298 u299 u300 u301 u302 u303 u304 u305 u306 u307 u308 u309 u310 u311 u312 u313 u314 u315 u316 u317 u318 u319 u320 u321 u322 u323 u324 u325 u326 u327 u328 u329 u330 u331 u332 u333 u334 u335 u336 u337 u338 u339 u340 u341 u342 u343 u344 u345 u346 u347 u348 u349 u350 u351 u352 u353 u354 u355 u356 u357 u358 u359 u360 u361 u362 u363 u364 u365 u366 u367 : Value}
    (aw : Option Addr) (nw cw wbk wo : Nat) (ww : Nat → Nat) (ar : Option Addr) (nr cr rb ro : Nat) (wrt : Nat → Bool) (rat : Nat → Nat) (ia : Nat → Option Addr) (ni ic qb qo : Nat → Nat) (z : Nat → Nat → Nat)
    (ta : Nat → Option Addr) (tn tc tb to : Nat → Nat) (tz : Nat → Nat → Nat) (sa : Nat → Int) (sf : Nat → Bool) (w : World)
    (HI : Hid (CIn aw nw wbk wo ww ar nr rb ro wrt rat ia ni ic qb qo z ta tn tb to tz sa w)) (hnw : nw ≤ 1024) (hnr : nr ≤ 1024) (HNI : Hid (∀ i, i < nr → ni i ≤ 1024)) (HTN : Hid (∀ x, x < 4 → tn x ≤ 1024))
    (ST : Nat) (wA : World) (HBX : Hid (BoxAt ta tn tc sa sf w.heap.size wA)) (HST : Hid (StAt sa sf ST wA)) (hbw : Below w.heap.size w wA)
    (tx : List Nat) (tv : Option Addr) (tcp : Nat) (s : St) (rv : Option Addr) (rcp g gcap F B1 B2 B3 : Nat) (HT : Hid (IntsAt B1 (.slice tv tx.length tcp) tx wA)) (HRO : Hid (IntsAt B2 (.slice rv s.ro.length rcp) s.ro wA)) (HF : Hid (wA.rowIs F 72 4 (fun x => .int .i64 (s.fr x)))) (HG : Hid (NowAt B3 g gcap ((nowL tx sa sf s).map (fin1 (fun x a => bestTo (tz x) a (tn x)))) wA)) (HX1 : Hid (∀ y, y ∈ tx → y < 4)) (HX2 : Hid (∀ y, y ∈ s.ro → y < 4)) (HIV : Hid (Inv tx s)) (hl1 : tx.length ≤ 2000000) (hl2 : s.ro.length ≤ 2000000)
    (K : Act → World → Prop) (hK : ∀ a w1, Code.wp Ybad.prog (dropSeq 20 (Ybad.f3.body.getD .skip)) (bodyPost Ybad.prog Ybad.f3 (fun e w' => e = .returned (.bool true) ∧ Below w.heap.size w w')) a w1 → K a w1)
    (K2 : Act → World → Prop) (hK2 : ∀ a w1, Code.wp Ybad.prog (tailSeq (headSeq (dropSeq 19 (Ybad.f3.body.getD .skip)))) (Exit.then K (bodyPost Ybad.prog Ybad.f3 (fun e w' => e = .returned (.bool true) ∧ Below w.heap.size w w'))) a w1 → K2 a w1) :
    Code.wp Ybad.prog (headSeq (headSeq (dropSeq 19 (Ybad.f3.body.getD .skip)))) (Exit.then K2 (Exit.then K (bodyPost Ybad.prog Ybad.f3 (fun e w' => e = .returned (.bool true) ∧ Below w.heap.size w w')))) ⟨#[u0, u1, u2, u3, u4, u5, u6, .pointer (some ⟨w.heap.size, 0, none⟩), .pointer (some ⟨w.heap.size + 1, 0, none⟩), .pointer (some ⟨w.heap.size + 2, 0, none⟩), u10, u11, u12, u13, u14, u15, u16, u17, u18, u19, u20, u21, .slice tv tx.length tcp, u23, u24, u25, u26, .slice (some ⟨ST, 0, none⟩) 4 4, u28, u29, u30, u31, u32, u33, u34, u35, .slice (some ⟨g, 0, none⟩) (nowL tx sa sf s).length gcap, .pointer (some ⟨F, 0, none⟩), u38, .slice rv s.ro.length rcp, u40, u41, u42, u43, u44, u45, u46, u47, u48, u49, u50, u51, u52, u53, u54, u55, u56, u57, u58, u59, u60, u61, u62, u63, u64, u65, u66, u67, u68, u69, u70, u71, u72, u73, u74, u75, u76, u77, u78, u79, u80, u81, u82, u83, u84, u85, u86, u87, u88, u89, u90, u91, u92, u93, u94, u95, u96, u97, u98, u99, u100, u101, u102, u103, u104, u105, u106, u107, u108, u109, u110, u111, u112, u113, u114, u115, u116, u117, u118, u119, u120, u121, u122, u123, u124, u125, u126, u127, u128, u129, u130, u131, u132, u133, u134, u135, u136, u137, u138, u139, u140, u141, u142, u143, u144, u145, u146, u147, u148, u149, u150, u151, u152, u153, u154, u155, u156, u157, u158, u159, u160, u161, u162, u163, u164, u165, u166, u167, u168, u169, u170, u171, u172, u173, u174, u175, u176, u177, u178, u179, u180, u181, u182, u183, u184, u185, u186, u187, u188, u189, u190, u191, u192, u193, u194, u195, u196, u197, u198, u199, u200, u201, u202, u203, u204, u205, u206, u207, u208, u209, u210, u211, u212, u213, u214, u215, u216, u217, u218, u219, u220, u221, u222, u223, u224, u225, u226, u227, u228, u229, u230, u231, u232, u233, u234, u235, u236, u237, u238, u239, u240, u241, u242, u243, u244, u245, u246, u247, u248, u249, u250, u251, u252, u253, u254, u255, u256, u257, u258, u259, u260, u261, u262, u263, u264, u265, u266, u267, u268, u269, u270, u271, u272, u273, u274, u275, u276, u277, u278, u279, u280, u281, u282, u283, u284, u285, u286, u287, u288, u289, u290, u291, u292, u293, u294, u295, u296, u297, u298, u299, u300, u301, u302, u303, u304, u305, u306, u307, u308, u309, u310, u311, u312, u313, u314, u315, u316, u317, u318, u319, u320, u321, u322, u323, u324, u325, u326, u327, u328, u329, u330, u331, u332, u333, u334, u335, u336, u337, u338, u339, u340, u341, u342, u343, u344, u345, u346, u347, u348, u349, u350, u351, u352, u353, u354, u355, u356, u357, u358, u359, u360, u361, u362, u363, u364, u365, u366, u367], []⟩ wA := by
  conv => arg 2; whnf
  conv at hK => intro a w1; arg 1; arg 2; whnf
  conv at hK2 => intro a w1; arg 1; arg 2; whnf
  have HNL := hideR (nowL_length tx sa sf s)
  have t0 : (((nowL tx sa sf s).length : Int) != (tx.length : Int) + (s.ro.length : Int)) = false := by rw [HNL.out]; simp
  go_upto_region 84 with fail
  obtain ⟨n, hn⟩ : ∃ n, n = (nowL tx sa sf s).length := ⟨_, rfl⟩
  rw [← hn]
  have HN := hideR hn
  have hn1 : n ≤ 4000000 := by rw [hn, HNL.out]; omega
  have hn2 : n ≤ tx.length + s.ro.length := by rw [hn, HNL.out]; omega
  clear hn t0
  go_loopw [45] (fun i wx => ∃ k : Nat, k ≤ n ∧ i = .int .i64 k ∧ Below wA.heap.size wA wx) (fun i _ => n - (intOf i).toNat)
  case atStart => exact ⟨0, by omega, rfl, Below.refl _ _⟩
  case round =>
    obtain ⟨i, hi, rfl, hbx⟩ := hrel
    have hbwx : Below w.heap.size w wr := hbw.trans (hbx.mono hbw.size)
    by_cases hlt : i < n
    · have i0 : (i : Int) < (n : Int) := by omega
      by_cases ha : i < tx.length
      · obtain ⟨x, hx⟩ : ∃ x, tx[i]? = some x := ⟨_, List.getElem?_eq_getElem ha⟩
        obtain ⟨tg, rfl, ct0⟩ := HT.out.cell hx
        have hx4 := HX1.out x (List.mem_of_getElem? hx)
        obtain ⟨q0, q1, q2⟩ := HG.out.cells (k := i) (e := fin1 (fun x a => bestTo (tz x) a (tn x)) (entW s x)) (by rw [List.getElem?_map, now_get_lt sa sf s hx]; rfl)
        replace q0 : wr.cell? ⟨g, i * 3, none⟩ = some (.int .i64 (x : Int)) := kept hbx q0
        replace q1 : wr.cell? ⟨g, i * 3 + 1, none⟩ = some (.int .i64 (if 0 ≤ s.fr x then bestTo (tz x) (s.fr x) (tn x) else s.fr x)) := kept hbx q1
        replace q2 : wr.cell? ⟨g, i * 3 + 2, none⟩ = some (.bool false) := kept hbx q2
        have ct := kept hbx ct0
        have fc : wr.cell? ⟨F, x, none⟩ = some (.int .i64 (s.fr x)) := kept hbx (HF.out.cell hx4)
        have cw : wr.cell? ⟨w.heap.size, x, none⟩ = some (.slice (ta x) (tn x) (tc x)) := kept hbx (HBX.out.t.cell hx4)
        have i1 : (i : Int) < (tx.length : Int) := by omega
        have i2 : (x : Int) < 4 := by omega
        obtain ⟨a, haa⟩ : ∃ a, a = s.fr x := ⟨_, rfl⟩
        rw [← haa] at q1 fc
        clear haa ct0 hx
        by_cases h0 : 0 ≤ a
        · rw [if_pos h0] at q1
          have HZ := hideR (zzs_any (ta x) (tn x) (tc x) (tb x) (to x) (tz x) a wr (HTN.out x hx4) (HI.out.tp x hx4) (fun j hj => kept hbwx (HI.out.tcell x hx4 j hj).1) (fun j hj => (HI.out.tcell x hx4 j hj).2))
          have t1 : decide (0 ≤ a) = true := by simpa using h0
          go_upto_region 100 with (go_at_call 6; refine HZ.out.mono ?_; rintro e w2 ⟨rfl, rfl⟩)
          clear HZ cw
          go_wp2
          go_roundw
          case rel => exact ⟨i + 1, by omega, by go_num, hbx⟩
          case measure => simp [intOf]; omega
        · rw [if_neg h0] at q1
          have t1 : decide (0 ≤ a) = false := by simpa using h0
          go_wp2
          go_roundw
          case rel => exact ⟨i + 1, by omega, by go_num, hbx⟩
          case measure => simp [intOf]; omega
      · obtain ⟨m, rfl⟩ : ∃ m, i = tx.length + m := ⟨i - tx.length, by omega⟩
        have hm : m < s.ro.length := by omega
        obtain ⟨x, hx⟩ : ∃ x, s.ro[m]? = some x := ⟨_, List.getElem?_eq_getElem hm⟩
        have hxr := List.mem_of_getElem? hx
        obtain ⟨rg, rfl, ct0⟩ := HRO.out.cell hx
        have hx4 := HX2.out x hxr
        have hge : (nowL tx sa sf s)[tx.length + m]? = some (entR sa sf s x) := now_get_ge sa sf s (by omega) (by rw [show tx.length + m - tx.length = m by omega]; exact hx)
        obtain ⟨q0, q1, q2⟩ := HG.out.cells (k := tx.length + m) (e := fin1 (fun x a => bestTo (tz x) a (tn x)) (entR sa sf s x)) (by rw [List.getElem?_map, hge]; rfl)
        have hfr : 0 ≤ s.fr x := (HIV.out.rd x (HIV.out.dis x hxr)).2 hxr
        obtain ⟨b, hb⟩ : ∃ b, b = (if 0 ≤ sa x ∧ sa x < s.fr x then sa x else s.fr x) := ⟨_, rfl⟩
        have hb0 : 0 ≤ b := by rw [hb]; split <;> omega
        replace q0 : wr.cell? ⟨g, (tx.length + m) * 3, none⟩ = some (.int .i64 (x : Int)) := kept hbx q0
        replace q1 : wr.cell? ⟨g, (tx.length + m) * 3 + 1, none⟩ = some (.int .i64 (bestTo (tz x) b (tn x))) := by
          have h : wr.cell? ⟨g, (tx.length + m) * 3 + 1, none⟩ = some (.int .i64 (if 0 ≤ (if 0 ≤ sa x ∧ sa x < s.fr x then sa x else s.fr x) then bestTo (tz x) (if 0 ≤ sa x ∧ sa x < s.fr x then sa x else s.fr x) (tn x) else (if 0 ≤ sa x ∧ sa x < s.fr x then sa x else s.fr x))) := kept hbx q1
          rw [← hb, if_pos hb0] at h
          exact h
        replace q2 : wr.cell? ⟨g, (tx.length + m) * 3 + 2, none⟩ = some (.bool (sf x)) := kept hbx q2
        have ct := kept hbx ct0
        have fc : wr.cell? ⟨F, x, none⟩ = some (.int .i64 (s.fr x)) := kept hbx (HF.out.cell hx4)
        have cw : wr.cell? ⟨w.heap.size, x, none⟩ = some (.slice (ta x) (tn x) (tc x)) := kept hbx (HBX.out.t.cell hx4)
        have ca : wr.cell? ⟨w.heap.size + 1, x, none⟩ = some (.int .i16 (sa x)) := kept hbx (HBX.out.a.cell hx4)
        have cf : wr.cell? ⟨w.heap.size + 2, x, none⟩ = some (.bool (sf x)) := kept hbx (HBX.out.f.cell hx4)
        have hsb := HI.out.sb x hx4
        have hs1 := hsb.1
        have hs2 := hsb.2
        have i1 : ¬ ((tx.length : Int) + (m : Int) < (tx.length : Int)) := by omega
        have i3 : (m : Int) < (s.ro.length : Int) := by omega
        have i4 : (tx.length : Int) + (m : Int) < (n : Int) := by omega
        have i5 : (tx.length : Int) + (m : Int) - (tx.length : Int) = (m : Int) := by omega
        have i2 : (x : Int) < 4 := by omega
        have HZ := hideR (zzs_any (ta x) (tn x) (tc x) (tb x) (to x) (tz x) b wr (HTN.out x hx4) (HI.out.tp x hx4) (fun j hj => kept hbwx (HI.out.tcell x hx4 j hj).1) (fun j hj => (HI.out.tcell x hx4 j hj).2))
        obtain ⟨a, haa⟩ : ∃ a, a = s.fr x := ⟨_, rfl⟩
        obtain ⟨c, hcc⟩ : ∃ c, c = sa x := ⟨_, rfl⟩
        rw [← haa] at fc hfr hb
        rw [← hcc] at ca hb hs1 hs2
        have HB := hideR hb
        clear haa hcc ct0 hx hge hsb hb i0
        by_cases h1 : 0 ≤ c
        · have t1 : decide (0 ≤ c) = true := by simpa using h1
          by_cases h2 : c < a
          · obtain rfl : b = c := by rw [HB.out, if_pos ⟨h1, h2⟩]
            have t2 : decide (b < a) = true := by simpa using h2
            go_upto_region 100 with (go_at_call 6; refine HZ.out.mono ?_; rintro e w2 ⟨rfl, rfl⟩)
            clear HZ cw
            go_wp2
            go_roundw
            case rel => exact ⟨tx.length + m + 1, by omega, by go_num, hbx⟩
            case measure => simp [intOf]; omega
          · obtain rfl : b = a := by rw [HB.out, if_neg (fun h => h2 h.2)]
            have t2 : decide (c < b) = false := by simpa using h2
            have t3 : decide (0 ≤ b) = true := by simpa using hb0
            go_upto_region 100 with (go_at_call 6; refine HZ.out.mono ?_; rintro e w2 ⟨rfl, rfl⟩)
            clear HZ cw
            go_wp2
            go_roundw
            case rel => exact ⟨tx.length + m + 1, by omega, by go_num, hbx⟩
            case measure => simp [intOf]; omega
        · have t1 : decide (0 ≤ c) = false := by simpa using h1
          obtain rfl : b = a := by rw [HB.out, if_neg (fun h => h1 h.1)]
          have t3 : decide (0 ≤ b) = true := by simpa using hb0
          go_upto_region 100 with (go_at_call 6; refine HZ.out.mono ?_; rintro e w2 ⟨rfl, rfl⟩)
          clear HZ cw
          go_wp2
          go_roundw
          case rel => exact ⟨tx.length + m + 1, by omega, by go_num, hbx⟩
          case measure => simp [intOf]; omega
    · obtain rfl : i = n := by omega
      go_upto_region 102 with fail
      exact law_p8 aw nw cw wbk wo ww ar nr cr rb ro wrt rat ia ni ic qb qo z ta tn tc tb to tz sa sf w HI hnw hnr HNI HTN ST wr (hideR (HBX.out.below hbx)) (hideR (rowIs_below HST.out hbx)) (hbw.trans (hbx.mono hbw.size)) _ (by assumption) _ (by assumption)
end Go.Proofs.YbulkbhpqDoor
