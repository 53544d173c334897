/-
  'deflate.LawS6362CWhole': from region 70 on.
-/
import Derived.Test.YbulkeassIface
namespace Go.Proofs.Ybulkeass
open Go.RowKit
attribute [local go_sem ↓] Go.wp_at_zero Go.wp_at_succ

theorem sz32 : (Yba.prog.info? 32).map (·.size) = some 286 := by kernel_rfl
theorem sz33 : (Yba.prog.info? 33).map (·.size) = some 30 := by kernel_rfl
theorem sz39 : (Yba.prog.info? 39).map (·.size) = some 576 := by kernel_rfl
theorem sz43 : (Yba.prog.info? 43).map (·.size) = some 1716 := by kernel_rfl
theorem gr_drewN' {B : Nat} (w : World) (n : Nat) : Below B w (w.drewN n) := ⟨rfl, rfl, rfl, Nat.le_refl _, fun _ _ => rfl⟩
theorem gr_drewN (w : World) (n : Nat) : Gr w (w.drewN n) := ⟨rfl, rfl, rfl, Nat.le_refl _, fun _ _ => rfl⟩

set_option maxRecDepth 100000 in
set_option maxHeartbeats 2000000 in
theorem tail45 {u0 u1 u2 u3 u4 u5 u6 u7 u10 u11 u12 u13 u14 u15 u16 u17 u18 u19 u20 u21 u22 u23 u26 u28 u29 u30 u31 u45 u46 u47 u48 u49 u50 u51 u52 u53 u54 u55 u56 u57 u58 u59 u60 u61 u62 u63 u64 u65 u66 u67 u68 u69 u70 u71 u72 u73 u74 u75 u76 u77 u78 u79 u80 u81 u82 u83 u84 u85 u86 u87 u88 u89 u90 u91 u92 u93 u94 u95 u96 u97 u98 u99 u100 u101 u102 u103 u104 u105 u106 u107 u108 u109 u110 u111 u112 u113 u114 u115 u116 u117 u118 u119 u120 u121 u122 u123 u124 u125 u126 u127 u128 u129 u130 u131 u132 u133 u134 u135 u136 u137 u138 u139 u140 u141 u142 u143 u144 u145 u146 u147 u148 u149 u150 u151 u152 u153 u154 u155 u156 u157 u158 u159 u160 u161 u162 u163 u164 u165 u166 u167 u168 u169 u170 u171 u172 u173 u174 u175 u176 u177 u178 u179 u180 u181 u182 u183 u184 u185 u186 u187 u188 u189 u190 u191 u192 u193 u194 u195 u196 u197 u198 u199 u200 u201 u202 u203 u204 u205 u206 u207 u208 u209 u210 u211 u212 u213 u214 u215 u216 u217 u218 u219 u220 u221 u222 u223 u224 u225 u226 u227 u228 u229 u230 u231 u232 u233 u234 u235 u236 u237 u238 u239 u240 u241 u242 u243 u244 u245 u246 u247 u248 u249 u250 u251 u252 u253 u254 u255 u256 u257 u258 u259 u260 u261 u262 u263 u264 u265 u266 u267 u268 u269 u270 u271 u272 u273 u274 u275 u276 u277 u278 u279 u280 u281 u282 u283 u284 u285 u286 u287 u288 u289 u290 u291 u292 u293 u294 u295 u296 u297 u298 u299 u300 u301 u302 u303 u304 u305 u306 u307 u308 u309 u310 u311 u312 u313 u314 u315 u316 u317 u318 u319 u320 u321 u322 u323 u324 u325 u326 u327 u328 u329 u330 u331 u332 u333 u334 u335 u336 u337 u338 u339 u340 u341 u342 u343 u344 u345 u346 u347 u348 u349 u350 u351 u352 u353 u354 u355 u356 u357 u358 u359 u360 u361 u362 u363 u364 u365 u366 u367 u368 u369 u370 u371 u372 u373 u374 u375 u376 u377 u378 u379 u380 u381 u382 u383 u384 u385 u386 u387 u388 u389 u390 u391 u392 u393 u394 u395 u396 u397 u398 u399 u400 u401 u402 u403 u404 u405 u406 u407 u408 u409 u410 u411 u412 u413 u414 u415 u416 u417 u418 u419 u420 u421 u422 u423 u424 u425 u426 u427 u428 u429 u430 u431 u432 u433 u434 u435 u436 u437 u438 u439 u440 u441 u442 u443 u444 u445 u446 u447 u448 u449 u450 u451 u452 u453 u454 u455 u456 u457 u458 u459 u460 u461 u462 u463 u464 u465 u466 u467 u468 u469 u470 u471 u472 u473 u474 u475 u476 u477 u478 u479 u480 u481 u482 u483 u484 u485 u486 u487 u488 u489 u490 u491 u492 u493 u494 u495 u496 u497 u498 u499 u500 u501 u502 u503 u504 u505 u506 u507 u508 u509 u510 u511 u512 u513 u514 u515 u516 u517 u518 u519 u520 u521 u522 u523 u524 u525 u526 u527 u528 u529 u530 u531 u532 u533 u534 u535 u536 u537 u538 u539 u540 u541 u542 u543 u544 u545 u546 u547 u548 u549 u550 u551 u552 u553 u554 u555 u556 u557 u558 u559 u560 u561 u562 u563 u564 u565 u566 u567 u568 u569 u570 u571 u572 : Value} (w wq : World) (a8 : Option Addr) (cap8 : Nat) (a9 : Option Addr) (cap9 : Nat) (off : Int) (il : Nat) (ia : Option Addr) (ic : Nat) (ta : Option Addr) (len8 tc len9 : Nat) (z8 : List Int) (N gw s1 s2 s3 s4 s5 s6 s7 gh : Nat) (c9 c' f : Nat → Value) (gi ic' : Nat) (ta' : Option Addr) (tl' tc' g' oc' : Nat)
    (w8 : Row .u32 w a8 len8 z8) (S : S40 w wq off il ia ic ta len8 tc len9 z8 N gw s1 s2 s3 s4 s5 s6 s7 gh c9 c' f gi ic' ta' tl' tc' g' oc') :
    Tail 45 w ⟨#[u0, u1, u2, u3, u4, u5, u6, u7, .slice a8 len8 cap8, .slice a9 len9 cap9, u10, u11, u12, u13, u14, u15, u16, u17, u18, u19, u20, u21, u22, u23, .bool false, .pointer (some ⟨w.heap.size, 0, none⟩), u26, .int .i64 off, u28, u29, u30, u31, .pointer (some ⟨s1, 0, none⟩), .pointer (some ⟨s2, 0, none⟩), .pointer (some ⟨s3, 0, none⟩), .pointer (some ⟨s4, 0, none⟩), .pointer (some ⟨s5, 0, none⟩), .pointer (some ⟨s6, 0, none⟩), .pointer (some ⟨s7, 0, none⟩), .int .i64 (il : Nat), .int .i64 (ic : Nat), .bool ia.isNone, .int .i64 (len8 : Nat), .int .i64 (tc : Nat), .pointer (some ⟨gw, 0, none⟩), u45, u46, u47, u48, u49, u50, u51, u52, u53, u54, u55, u56, u57, u58, u59, u60, u61, u62, u63, u64, u65, u66, u67, u68, u69, u70, u71, u72, u73, u74, u75, u76, u77, u78, u79, u80, u81, u82, u83, u84, u85, u86, u87, u88, u89, u90, u91, u92, u93, u94, u95, u96, u97, u98, u99, u100, u101, u102, u103, u104, u105, u106, u107, u108, u109, u110, u111, u112, u113, u114, u115, u116, u117, u118, u119, u120, u121, u122, u123, u124, u125, u126, u127, u128, u129, u130, u131, u132, u133, u134, u135, u136, u137, u138, u139, u140, u141, u142, u143, u144, u145, u146, u147, u148, u149, u150, u151, u152, u153, u154, u155, u156, u157, u158, u159, u160, u161, u162, u163, u164, u165, u166, u167, u168, u169, u170, u171, u172, u173, u174, u175, u176, u177, u178, u179, u180, u181, u182, u183, u184, u185, u186, u187, u188, u189, u190, u191, u192, u193, u194, u195, u196, u197, u198, u199, u200, u201, u202, u203, u204, u205, u206, u207, u208, u209, u210, u211, u212, u213, u214, u215, u216, u217, u218, u219, u220, u221, u222, u223, u224, u225, u226, u227, u228, u229, u230, u231, u232, u233, u234, u235, u236, u237, u238, u239, u240, u241, u242, u243, u244, u245, u246, u247, u248, u249, u250, u251, u252, u253, u254, u255, u256, u257, u258, u259, u260, u261, u262, u263, u264, u265, u266, u267, u268, u269, u270, u271, u272, u273, u274, u275, u276, u277, u278, u279, u280, u281, u282, u283, u284, u285, u286, u287, u288, u289, u290, u291, u292, u293, u294, u295, u296, u297, u298, u299, u300, u301, u302, u303, u304, u305, u306, u307, u308, u309, u310, u311, u312, u313, u314, u315, u316, u317, u318, u319, u320, u321, u322, u323, u324, u325, u326, u327, u328, u329, u330, u331, u332, u333, u334, u335, u336, u337, u338, u339, u340, u341, u342, u343, u344, u345, u346, u347, u348, u349, u350, u351, u352, u353, u354, u355, u356, u357, u358, u359, u360, u361, u362, u363, u364, u365, u366, u367, u368, u369, u370, u371, u372, u373, u374, u375, u376, u377, u378, u379, u380, u381, u382, u383, u384, u385, u386, u387, u388, u389, u390, u391, u392, u393, u394, u395, u396, u397, u398, u399, u400, u401, u402, u403, u404, u405, u406, u407, u408, u409, u410, u411, u412, u413, u414, u415, u416, u417, u418, u419, u420, u421, u422, u423, u424, u425, u426, u427, u428, u429, u430, u431, u432, u433, u434, u435, u436, u437, u438, u439, u440, u441, u442, u443, u444, u445, u446, u447, u448, u449, u450, u451, u452, u453, u454, u455, u456, u457, u458, u459, u460, u461, u462, u463, u464, u465, u466, u467, u468, u469, u470, u471, u472, u473, u474, u475, u476, u477, u478, u479, u480, u481, u482, u483, u484, u485, u486, u487, u488, u489, u490, u491, u492, u493, u494, u495, u496, u497, u498, u499, u500, u501, u502, u503, u504, u505, u506, u507, u508, u509, u510, u511, u512, u513, u514, u515, u516, u517, u518, u519, u520, u521, u522, u523, u524, u525, u526, u527, u528, u529, u530, u531, u532, u533, u534, u535, u536, u537, u538, u539, u540, u541, u542, u543, u544, u545, u546, u547, u548, u549, u550, u551, u552, u553, u554, u555, u556, u557, u558, u559, u560, u561, u562, u563, u564, u565, u566, u567, u568, u569, u570, u571, u572], []⟩ wq := by
  refine ⟨_, rfl, ?_⟩
  have k1 := S.row.cell (i := 1) (by decide)
  rw [S.c1] at k1
  have kT := S.row.cell (i := 16390) (by decide)
  rw [S.cT] at kT
  have kG := S.row.cell (i := 16707) (by decide)
  rw [S.cG] at kG
  have q1 := eqlNilAny
  have q2 := eqlNil24
  go_upto_if 342 with fail
  go_cut [] from 342 to 434 (fun wx => Gr wq wx)
  case first =>
    rcases S.how with ⟨hia, hic', ⟨gt, hta⟩, htl, htc, hoc⟩ | ⟨hia, hic', hta, htl, htc, hoc⟩
    · subst hia hic' hta htl htc hoc
      go_wp2
      go_meet
      exact Below.refl _ _
    · obtain ⟨x, rfl⟩ : ∃ x, ia = some x := by
        cases ia with
        | none => cases hia
        | some x => exact ⟨x, rfl⟩
      clear hia
      subst hic' hta htl htc hoc
      have e1 : ((ic' : Int) != (ic' : Int)) = false := by simp
      have e2 : ((tl' : Int) != (tl' : Int)) = false := by simp
      have e3 : ((tc' : Int) != (tc' : Int)) = false := by simp
      have e4 : ((len9 : Int) + 2 != (len9 : Int) + 2) = false := by simp
      have hl8 := S.hl8
      have hl9 := S.hl9
      go_wp2
      go_loopw [50] (fun i wr => ∃ k : Nat, k ≤ tl' ∧ i = .int .i64 k ∧ Gr wq wr) (fun i _ => tl' - (intOf i).toNat)
      case atStart => exact ⟨0, Nat.zero_le _, rfl, Below.refl _ _⟩
      case round =>
        obtain ⟨k, hk, rfl, hgr⟩ := hrel
        by_cases hlt : k < tl'
        · have Sr := S.gr hgr
          have htk := Sr.tok
          have hbl := Sr.bel
          have krT := Sr.row.cell (i := 16390) (by decide)
          rw [S.cT] at krT
          clear k1 kT kG Sr
          obtain ⟨gt, ft, hta, hft, hfi⟩ : ∃ gt ft, ta' = some ⟨gt, 0, none⟩ ∧ wr.rowIs gt 23 (tl' + 3) ft ∧ ft k = .int .u32 (z8.getD k 0) := by
            rcases htk with ⟨h0, _⟩ | ⟨g, f, _, _, h3, h4, h5⟩
            · omega
            · cases h3; exact ⟨g, f, rfl, h4, h5 k hlt⟩
          have kt := hft.cell (i := k) (by omega)
          rw [hfi] at kt
          obtain ⟨x8, hx8⟩ : ∃ x, a8 = some x := by
            cases a8 with
            | none => have := w8.1 rfl; omega
            | some x => exact ⟨x, rfl⟩
          obtain ⟨b8, o8, rfl, hlt8, hc8⟩ := w8.2 x8 hx8 (by omega)
          have ka : wr.cell? ⟨b8, o8 + k, none⟩ = some (.int .u32 (z8.getD k 0)) := (hbl.cell (p := ⟨b8, o8 + k, none⟩) hlt8).trans (hc8 k hlt)
          subst hta hx8
          clear hc8 htk hft hfi
          generalize z8.getD k 0 = v8 at *
          have e5 : (v8 != v8) = false := by simp
          go_wp2
          go_quiet (fail)
          go_wp2
          go_roundw
          case rel => exact ⟨k + 1, by omega, by go_num, hgr.trans (gr_drewN' _ _)⟩
          case measure => simp [intOf]; omega
        · obtain rfl : k = tl' := by omega
          go_wp2
          go_meet
          exact hgr
  case rest =>
    have S2 := S.gr hcut
    clear k1 kT kG
    have kG := S2.row.cell (i := 16707) (by decide)
    rw [S.cG] at kG
    have kf0 := S2.outr.cell (i := 0) (by rcases S.how with ⟨_, _, _, _, _, h⟩ | ⟨_, _, _, _, _, h⟩ <;> omega)
    rw [S.f0] at kf0
    have kf1 := S2.outr.cell (i := 1) (by rcases S.how with ⟨_, _, _, _, _, h⟩ | ⟨_, _, _, _, _, h⟩ <;> omega)
    rw [S.f1] at kf1
    have k2 := S2.row.cell (i := 2) (by decide)
    rw [S.c2] at k2
    have k3 := S2.row.cell (i := 3) (by decide)
    rw [S.c3] at k3
    have k4 := S2.row.cell (i := 4) (by decide)
    rw [S.c4] at k4
    have kB := S2.row.cell (i := 16708) (by decide)
    rw [S.cB] at kB
    have kN := S2.row.cell (i := 16709) (by decide)
    rw [S.cN] at kN
    have hoc : 2 ≤ oc' := by rcases S.how with ⟨_, _, _, _, _, h⟩ | ⟨_, _, _, _, _, h⟩ <;> omega
    have g2 : seg (fun i => c9 (16391 + i)) 0 286 = seg c' 16391 286 := seg_congr fun i hi => by rw [S.rest (16391 + i) (by omega), Nat.zero_add]
    have q82 := neq_arr 32 286 ia32 c' 16391 (fun i hi => by rw [S.rest (16391 + i) (by omega)]; exact S.int1 _ (by omega) (by omega))
    have g3 : seg (fun i => c9 (16677 + i)) 0 30 = seg c' 16677 30 := seg_congr fun i hi => by rw [S.rest (16677 + i) (by omega), Nat.zero_add]
    have q83 := neq_arr 33 30 ia33 c' 16677 (fun i hi => by rw [S.rest (16677 + i) (by omega)]; exact S.int1 _ (by omega) (by omega))
    have g4 : seg (fun i => c9 (16710 + i)) 0 576 = seg c' 16710 576 := seg_congr fun i hi => by rw [S.rest (16710 + i) (by omega), Nat.zero_add]
    have q84 := neq39 c' 16710 (fun i hi => by rw [S.rest (16710 + i) (by omega)]; exact S.int2 _ (by omega) (by omega))
    have g5 : seg (fun i => c9 (17286 + i)) 0 576 = seg c' 17286 576 := seg_congr fun i hi => by rw [S.rest (17286 + i) (by omega), Nat.zero_add]
    have q85 := neq39 c' 17286 (fun i hi => by rw [S.rest (17286 + i) (by omega)]; exact S.int2 _ (by omega) (by omega))
    have g6 : seg (fun i => c9 (17862 + i)) 0 576 = seg c' 17862 576 := seg_congr fun i hi => by rw [S.rest (17862 + i) (by omega), Nat.zero_add]
    have q86 := neq39 c' 17862 (fun i hi => by rw [S.rest (17862 + i) (by omega)]; exact S.int2 _ (by omega) (by omega))
    have g7 : seg (fun i => c9 (18438 + i)) 0 1716 = seg c' 18438 1716 := seg_congr fun i hi => by rw [S.rest (18438 + i) (by omega), Nat.zero_add]
    have q87 := neq43 c' 18438 (fun i hi => by rw [S.rest (18438 + i) (by omega)]; exact S.int2 _ (by omega) (by omega))
    go_upto_region 86 with fail
    clear kG kf0 kf1 k2 k3 k4 kB kN
    have kH := S2.row.cell (i := 20154) (by decide)
    rw [S.cH] at kH
    have h0 : wc.cell? ⟨gh, 0, none⟩ = some (.int .u8 1) := S2.rh.cell (i := 0) (by decide)
    have h1 : wc.cell? ⟨gh, 1, none⟩ = some (.int .u8 2) := S2.rh.cell (i := 1) (by decide)
    have h2 : wc.cell? ⟨gh, 2, none⟩ = some (.int .u8 3) := S2.rh.cell (i := 2) (by decide)
    refine wp_region_quiet_lit (by kernel_rfl) (by kernel_rfl) ?_
    repeat (first
      | ((with_reducible refine wpQuiet_load_row 32 16391 286 S2.row (by decide) Yba.underlying32 rfl sz32 ?_ ?_ ?_); (· rfl); (· rfl); simp only [Act.put, List.setIfInBounds_toArray, List.set_cons_zero, List.set_cons_succ])
      | ((with_reducible refine wpQuiet_load_row 32 0 286 S2.r2 (by decide) Yba.underlying32 rfl sz32 ?_ ?_ ?_); (· rfl); (· rfl); rw [g2]; simp only [Act.put, List.setIfInBounds_toArray, List.set_cons_zero, List.set_cons_succ])
      | ((with_reducible refine wpQuiet_load_row 33 16677 30 S2.row (by decide) Yba.underlying33 rfl sz33 ?_ ?_ ?_); (· rfl); (· rfl); simp only [Act.put, List.setIfInBounds_toArray, List.set_cons_zero, List.set_cons_succ])
      | ((with_reducible refine wpQuiet_load_row 33 0 30 S2.r3 (by decide) Yba.underlying33 rfl sz33 ?_ ?_ ?_); (· rfl); (· rfl); rw [g3]; simp only [Act.put, List.setIfInBounds_toArray, List.set_cons_zero, List.set_cons_succ])
      | ((with_reducible refine wpQuiet_load_row 39 16710 576 S2.row (by decide) Yba.underlying39 rfl sz39 ?_ ?_ ?_); (· rfl); (· rfl); simp only [Act.put, List.setIfInBounds_toArray, List.set_cons_zero, List.set_cons_succ])
      | ((with_reducible refine wpQuiet_load_row 39 0 576 S2.r4 (by decide) Yba.underlying39 rfl sz39 ?_ ?_ ?_); (· rfl); (· rfl); rw [g4]; simp only [Act.put, List.setIfInBounds_toArray, List.set_cons_zero, List.set_cons_succ])
      | ((with_reducible refine wpQuiet_load_row 39 17286 576 S2.row (by decide) Yba.underlying39 rfl sz39 ?_ ?_ ?_); (· rfl); (· rfl); simp only [Act.put, List.setIfInBounds_toArray, List.set_cons_zero, List.set_cons_succ])
      | ((with_reducible refine wpQuiet_load_row 39 0 576 S2.r5 (by decide) Yba.underlying39 rfl sz39 ?_ ?_ ?_); (· rfl); (· rfl); rw [g5]; simp only [Act.put, List.setIfInBounds_toArray, List.set_cons_zero, List.set_cons_succ])
      | ((with_reducible refine wpQuiet_load_row 39 17862 576 S2.row (by decide) Yba.underlying39 rfl sz39 ?_ ?_ ?_); (· rfl); (· rfl); simp only [Act.put, List.setIfInBounds_toArray, List.set_cons_zero, List.set_cons_succ])
      | ((with_reducible refine wpQuiet_load_row 39 0 576 S2.r6 (by decide) Yba.underlying39 rfl sz39 ?_ ?_ ?_); (· rfl); (· rfl); rw [g6]; simp only [Act.put, List.setIfInBounds_toArray, List.set_cons_zero, List.set_cons_succ])
      | ((with_reducible refine wpQuiet_load_row 43 18438 1716 S2.row (by decide) Yba.underlying43 rfl sz43 ?_ ?_ ?_); (· rfl); (· rfl); simp only [Act.put, List.setIfInBounds_toArray, List.set_cons_zero, List.set_cons_succ])
      | ((with_reducible refine wpQuiet_load_row 43 0 1716 S2.r7 (by decide) Yba.underlying43 rfl sz43 ?_ ?_ ?_); (· rfl); (· rfl); rw [g7]; simp only [Act.put, List.setIfInBounds_toArray, List.set_cons_zero, List.set_cons_succ])
      | go_big_quiet_step (fail))
    refine wpQuiet_nil ?_
    intro _ hw'
    obtain ⟨nq, hw''⟩ := hw'
    subst hw''
    go_wp2
    go_ret
    exact ⟨rfl, S2.bel.trans (gr_drewN' _ _)⟩
end Go.Proofs.Ybulkeass
