/-
  'deflate.LawS6362CWhole': what follows Reset (from the 41st statement on).
-/
import Derived.Test.YbulkeassTail45
namespace Go.Proofs.Ybulkeass
open Go.RowKit
attribute [local go_sem ↓] Go.wp_at_zero Go.wp_at_succ

theorem one_r {w wq : World} {off : Int} {il : Nat} {ia : Option Addr} {ic : Nat} {ta : Option Addr} {len8 tc len9 : Nat} {z8 : List Int} {N gw s1 s2 s3 s4 s5 s6 s7 gh : Nat} {c9 c' f : Nat → Value} {gi ic' : Nat} {ta' : Option Addr} {tl' tc' g' oc' : Nat}
    (S : S40 w wq off il ia ic ta len8 tc len9 z8 N gw s1 s2 s3 s4 s5 s6 s7 gh c9 c' f gi ic' ta' tl' tc' g' oc') : ∀ i, i < 16384 → ((fun i => c9 (5 + i)) (0 + i)).oneCell' = true := fun i hi => by
  obtain ⟨n, hn⟩ := S.hsh9 i hi
  simp [hn, Value.oneCell']

set_option maxRecDepth 100000 in
set_option maxHeartbeats 2000000 in
theorem tail40 {u0 u1 u2 u3 u4 u5 u6 u7 u10 u11 u12 u13 u14 u15 u16 u17 u18 u19 u20 u21 u22 u23 u26 u28 u29 u30 u31 u45 u46 u47 u48 u49 u50 u51 u52 u53 u54 u55 u56 u57 u58 u59 u60 u61 u62 u63 u64 u65 u66 u67 u68 u69 u70 u71 u72 u73 u74 u75 u76 u77 u78 u79 u80 u81 u82 u83 u84 u85 u86 u87 u88 u89 u90 u91 u92 u93 u94 u95 u96 u97 u98 u99 u100 u101 u102 u103 u104 u105 u106 u107 u108 u109 u110 u111 u112 u113 u114 u115 u116 u117 u118 u119 u120 u121 u122 u123 u124 u125 u126 u127 u128 u129 u130 u131 u132 u133 u134 u135 u136 u137 u138 u139 u140 u141 u142 u143 u144 u145 u146 u147 u148 u149 u150 u151 u152 u153 u154 u155 u156 u157 u158 u159 u160 u161 u162 u163 u164 u165 u166 u167 u168 u169 u170 u171 u172 u173 u174 u175 u176 u177 u178 u179 u180 u181 u182 u183 u184 u185 u186 u187 u188 u189 u190 u191 u192 u193 u194 u195 u196 u197 u198 u199 u200 u201 u202 u203 u204 u205 u206 u207 u208 u209 u210 u211 u212 u213 u214 u215 u216 u217 u218 u219 u220 u221 u222 u223 u224 u225 u226 u227 u228 u229 u230 u231 u232 u233 u234 u235 u236 u237 u238 u239 u240 u241 u242 u243 u244 u245 u246 u247 u248 u249 u250 u251 u252 u253 u254 u255 u256 u257 u258 u259 u260 u261 u262 u263 u264 u265 u266 u267 u268 u269 u270 u271 u272 u273 u274 u275 u276 u277 u278 u279 u280 u281 u282 u283 u284 u285 u286 u287 u288 u289 u290 u291 u292 u293 u294 u295 u296 u297 u298 u299 u300 u301 u302 u303 u304 u305 u306 u307 u308 u309 u310 u311 u312 u313 u314 u315 u316 u317 u318 u319 u320 u321 u322 u323 u324 u325 u326 u327 u328 u329 u330 u331 u332 u333 u334 u335 u336 u337 u338 u339 u340 u341 u342 u343 u344 u345 u346 u347 u348 u349 u350 u351 u352 u353 u354 u355 u356 u357 u358 u359 u360 u361 u362 u363 u364 u365 u366 u367 u368 u369 u370 u371 u372 u373 u374 u375 u376 u377 u378 u379 u380 u381 u382 u383 u384 u385 u386 u387 u388 u389 u390 u391 u392 u393 u394 u395 u396 u397 u398 u399 u400 u401 u402 u403 u404 u405 u406 u407 u408 u409 u410 u411 u412 u413 u414 u415 u416 u417 u418 u419 u420 u421 u422 u423 u424 u425 u426 u427 u428 u429 u430 u431 u432 u433 u434 u435 u436 u437 u438 u439 u440 u441 u442 u443 u444 u445 u446 u447 u448 u449 u450 u451 u452 u453 u454 u455 u456 u457 u458 u459 u460 u461 u462 u463 u464 u465 u466 u467 u468 u469 u470 u471 u472 u473 u474 u475 u476 u477 u478 u479 u480 u481 u482 u483 u484 u485 u486 u487 u488 u489 u490 u491 u492 u493 u494 u495 u496 u497 u498 u499 u500 u501 u502 u503 u504 u505 u506 u507 u508 u509 u510 u511 u512 u513 u514 u515 u516 u517 u518 u519 u520 u521 u522 u523 u524 u525 u526 u527 u528 u529 u530 u531 u532 u533 u534 u535 u536 u537 u538 u539 u540 u541 u542 u543 u544 u545 u546 u547 u548 u549 u550 u551 u552 u553 u554 u555 u556 u557 u558 u559 u560 u561 u562 u563 u564 u565 u566 u567 u568 u569 u570 u571 u572 : Value} (w wq : World) (a8 : Option Addr) (cap8 : Nat) (a9 : Option Addr) (cap9 : Nat) (off : Int) (il : Nat) (ia : Option Addr) (ic : Nat) (ta : Option Addr) (len8 tc len9 : Nat) (z8 : List Int) (N gw s1 s2 s3 s4 s5 s6 s7 gh : Nat) (c9 c' f : Nat → Value) (gi ic' : Nat) (ta' : Option Addr) (tl' tc' g' oc' : Nat)
    (w8 : Row .u32 w a8 len8 z8) (S : S40 w wq off il ia ic ta len8 tc len9 z8 N gw s1 s2 s3 s4 s5 s6 s7 gh c9 c' f gi ic' ta' tl' tc' g' oc') :
    Tail 40 w ⟨#[u0, u1, u2, u3, u4, u5, u6, u7, .slice a8 len8 cap8, .slice a9 len9 cap9, u10, u11, u12, u13, u14, u15, u16, u17, u18, u19, u20, u21, u22, u23, .bool false, .pointer (some ⟨w.heap.size, 0, none⟩), u26, .int .i64 off, u28, u29, u30, u31, .pointer (some ⟨s1, 0, none⟩), .pointer (some ⟨s2, 0, none⟩), .pointer (some ⟨s3, 0, none⟩), .pointer (some ⟨s4, 0, none⟩), .pointer (some ⟨s5, 0, none⟩), .pointer (some ⟨s6, 0, none⟩), .pointer (some ⟨s7, 0, none⟩), .int .i64 (il : Nat), .int .i64 (ic : Nat), .bool ia.isNone, .int .i64 (len8 : Nat), .int .i64 (tc : Nat), .pointer (some ⟨gw, 0, none⟩), u45, u46, u47, u48, u49, u50, u51, u52, u53, u54, u55, u56, u57, u58, u59, u60, u61, u62, u63, u64, u65, u66, u67, u68, u69, u70, u71, u72, u73, u74, u75, u76, u77, u78, u79, u80, u81, u82, u83, u84, u85, u86, u87, u88, u89, u90, u91, u92, u93, u94, u95, u96, u97, u98, u99, u100, u101, u102, u103, u104, u105, u106, u107, u108, u109, u110, u111, u112, u113, u114, u115, u116, u117, u118, u119, u120, u121, u122, u123, u124, u125, u126, u127, u128, u129, u130, u131, u132, u133, u134, u135, u136, u137, u138, u139, u140, u141, u142, u143, u144, u145, u146, u147, u148, u149, u150, u151, u152, u153, u154, u155, u156, u157, u158, u159, u160, u161, u162, u163, u164, u165, u166, u167, u168, u169, u170, u171, u172, u173, u174, u175, u176, u177, u178, u179, u180, u181, u182, u183, u184, u185, u186, u187, u188, u189, u190, u191, u192, u193, u194, u195, u196, u197, u198, u199, u200, u201, u202, u203, u204, u205, u206, u207, u208, u209, u210, u211, u212, u213, u214, u215, u216, u217, u218, u219, u220, u221, u222, u223, u224, u225, u226, u227, u228, u229, u230, u231, u232, u233, u234, u235, u236, u237, u238, u239, u240, u241, u242, u243, u244, u245, u246, u247, u248, u249, u250, u251, u252, u253, u254, u255, u256, u257, u258, u259, u260, u261, u262, u263, u264, u265, u266, u267, u268, u269, u270, u271, u272, u273, u274, u275, u276, u277, u278, u279, u280, u281, u282, u283, u284, u285, u286, u287, u288, u289, u290, u291, u292, u293, u294, u295, u296, u297, u298, u299, u300, u301, u302, u303, u304, u305, u306, u307, u308, u309, u310, u311, u312, u313, u314, u315, u316, u317, u318, u319, u320, u321, u322, u323, u324, u325, u326, u327, u328, u329, u330, u331, u332, u333, u334, u335, u336, u337, u338, u339, u340, u341, u342, u343, u344, u345, u346, u347, u348, u349, u350, u351, u352, u353, u354, u355, u356, u357, u358, u359, u360, u361, u362, u363, u364, u365, u366, u367, u368, u369, u370, u371, u372, u373, u374, u375, u376, u377, u378, u379, u380, u381, u382, u383, u384, u385, u386, u387, u388, u389, u390, u391, u392, u393, u394, u395, u396, u397, u398, u399, u400, u401, u402, u403, u404, u405, u406, u407, u408, u409, u410, u411, u412, u413, u414, u415, u416, u417, u418, u419, u420, u421, u422, u423, u424, u425, u426, u427, u428, u429, u430, u431, u432, u433, u434, u435, u436, u437, u438, u439, u440, u441, u442, u443, u444, u445, u446, u447, u448, u449, u450, u451, u452, u453, u454, u455, u456, u457, u458, u459, u460, u461, u462, u463, u464, u465, u466, u467, u468, u469, u470, u471, u472, u473, u474, u475, u476, u477, u478, u479, u480, u481, u482, u483, u484, u485, u486, u487, u488, u489, u490, u491, u492, u493, u494, u495, u496, u497, u498, u499, u500, u501, u502, u503, u504, u505, u506, u507, u508, u509, u510, u511, u512, u513, u514, u515, u516, u517, u518, u519, u520, u521, u522, u523, u524, u525, u526, u527, u528, u529, u530, u531, u532, u533, u534, u535, u536, u537, u538, u539, u540, u541, u542, u543, u544, u545, u546, u547, u548, u549, u550, u551, u552, u553, u554, u555, u556, u557, u558, u559, u560, u561, u562, u563, u564, u565, u566, u567, u568, u569, u570, u571, u572], []⟩ wq := by
  refine ⟨_, rfl, ?_⟩
  obtain ⟨fw, hfw, hfw0, hfw1⟩ := S.rw51
  have k0 := S.row.cell (i := 0) (by decide)
  rw [S.c0] at k0
  have k51 := hfw.cell (i := 1) (by decide)
  rw [hfw1] at k51
  have k50 := hfw.cell (i := 0) (by decide)
  rw [hfw0] at k50
  have q0 := neqNil22
  have q28 := neqIface
  have ho0 := S.ho0
  have ho1 := S.ho1
  have hil := S.hil
  go_upto_if 294 with ((with_reducible refine snap_g 31 0 16384 S.r1 ?_ (by decide) Yba.underlying31 rfl zero31 (one_r S) ?_ ?_ ?_); (· rfl); (· intro g; rfl); (· intro g; rfl); intro we ge hge hre hgr)
  have hwq := S.row.lt
  have hgeq : wq.heap.size ≤ ge := by omega
  go_cut [45] from 293 to 314 (fun o wx => o = .int .i64 (newOff off ((il : Int) + 1)) ∧ Gr wq wx ∧ ∃ fe, wx.rowIs ge 31 16384 fe ∧ ∀ i, i < 16384 → fe i = newH off ((il : Int) + 1) (c9 (5 + i)))
  case first =>
    by_cases hb : off + ((il : Int) + 1) ≤ 1073741824
    · have hb' : ¬ 1073741824 < off + (il : Int) + 1 := by omega
      go_wp2
      go_meet
      exact ⟨by simp only [newOff]; rw [if_pos hb]; congr 1; omega, hgr, _, hre, fun i hi => by simp only [newH]; rw [if_pos hb, Nat.zero_add]⟩
    · have hb' : 1073741824 < off + (il : Int) + 1 := by omega
      go_wp2
      go_loopw [48] (fun i wr => ∃ k : Nat, k ≤ 16384 ∧ i = .int .i64 k ∧ Gr wq wr ∧ ∃ fe, wr.rowIs ge 31 16384 fe ∧ ∀ i, i < k → fe i = mvv (off + ((il : Int) + 1) - 1) (c9 (5 + i))) (fun i _ => 16384 - (intOf i).toNat)
      case atStart => exact ⟨0, by omega, rfl, hgr, _, hre, fun i hi => by omega⟩
      case round =>
        clear hre hgr
        obtain ⟨k, hk, rfl, hgr, fe, hre, hdone⟩ := hrel
        by_cases hlt : k < 16384
        · obtain ⟨n, hn⟩ := S.hsh9 k hlt
          have k1 : wr.cell? ⟨s1, k, none⟩ = some (.int .u32 n) := (((S.gr hgr).r1).cell hlt).trans (congrArg some hn)
          have hD : off + (il : Int) + 1 - 1 = off + il := by omega
          by_cases hgt : off + (il : Int) < n
          · go_wp2_with (((with_reducible refine store1_g 23 k (.int .u32 (IntKind.u32.wrap (n - (off + il)))) hre ?_ ?_ (by omega) size23 rfl ?_); (· rfl); (· first | rfl | go_num); intro w2 hr2 hB2))
            exact ⟨⟨k + 1, by omega, by go_num, hgr.trans (hB2.bel.mono hgeq), _, hr2, fun i hi => by
              by_cases e : i = k
              · subst e; rw [upd_same, hn]; simp only [mvv]; rw [if_pos (by omega), show off + ((il : Int) + 1) - 1 = off + il by omega]
              · rw [upd_other _ _ _ e]; exact hdone i (by omega)⟩, by simp [intOf]; omega⟩
          · go_wp2_with (((with_reducible refine store1_g 23 k (.int .u32 0) hre ?_ ?_ (by omega) size23 rfl ?_); (· rfl); (· rfl); intro w2 hr2 hB2))
            exact ⟨⟨k + 1, by omega, by go_num, hgr.trans (hB2.bel.mono hgeq), _, hr2, fun i hi => by
              by_cases e : i = k
              · subst e; rw [upd_same, hn]; simp only [mvv]; rw [if_neg (by omega)]
              · rw [upd_other _ _ _ e]; exact hdone i (by omega)⟩, by simp [intOf]; omega⟩
        · obtain rfl : k = 16384 := by omega
          go_wp2
          go_meet
          exact ⟨by simp only [newOff]; rw [if_neg (by omega)], hgr, fe, hre, fun i hi => by simp only [newH]; rw [if_neg (by omega)]; exact hdone i hi⟩
  case rest =>
    obtain ⟨rfl, hgr2, fe, hre2, hfe⟩ := hcut
    clear hre hgr k0 k51 k50 hfw hfw0 hfw1
    replace S := S.gr hgr2
    have hsg : seg fe 0 16384 = seg c' 5 16384 := seg_congr fun i hi => by rw [Nat.zero_add, hfe i hi, S.hsh i hi]
    have hIn : ∀ i, i < 16384 → ∃ k m, c' (5 + i) = .int k m := fun i hi => by
      obtain ⟨n, hn⟩ := S.hsh9 i hi
      rw [S.hsh i hi, hn]
      simp only [newH, mvv]
      split <;> exact ⟨_, _, rfl⟩
    have q31 := neq_arr 31 16384 ia31 c' 5 hIn
    have kO := S.row.cell (i := 16389) (by decide)
    rw [S.cO] at kO
    clear hIn hfe
    generalize newOff off ((il : Int) + 1) = NO at *
    have e1 : (NO != NO) = false := by simp
    go_wp2
    refine wp_region_quiet_lit (by kernel_rfl) (by kernel_rfl) ?_
    repeat (first
      | ((with_reducible refine wpQuiet_load_row 31 5 16384 S.row (by decide) Yba.underlying31 rfl size31 ?_ ?_ ?_); (· rfl); (· rfl); simp only [Act.put, List.setIfInBounds_toArray, List.set_cons_zero, List.set_cons_succ])
      | ((with_reducible refine wpQuiet_load_row 31 0 16384 hre2 (by decide) Yba.underlying31 rfl size31 ?_ ?_ ?_); (· rfl); (· rfl); rw [hsg]; simp only [Act.put, List.setIfInBounds_toArray, List.set_cons_zero, List.set_cons_succ])
      | go_big_quiet_step (fail))
    refine wpQuiet_nil ?_
    intro _ hw'
    obtain ⟨nq, hw''⟩ := hw'
    subst hw''
    go_upto_if 328 with fail
    go_cut [24] from 315 to 328 (fun r wx => r = .bool false ∧ Gr wc wx)
    case first =>
      go_wp2
      go_meet
      exact ⟨rfl, gr_drewN _ _⟩
    case rest =>
      obtain ⟨rfl, hcut⟩ := hcut
      have S2 := S.gr hcut
      apply_assumption
      exact (tail45 w _ a8 cap8 a9 cap9 off il ia ic ta len8 tc len9 z8 N gw s1 s2 s3 s4 s5 s6 s7 gh c9 c' f gi ic' ta' tl' tc' g' oc' w8 S2).use rfl
end Go.Proofs.Ybulkeass
