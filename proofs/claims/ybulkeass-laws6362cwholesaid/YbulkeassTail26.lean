/-
  'deflate.LawS6362CWhole': the seven copies and Reset (from region 40 on).
-/
import Derived.Test.YbulkeassTail
namespace Go.Proofs.Ybulkeass
open Go.RowKit
attribute [local go_sem ↓] Go.wp_at_zero Go.wp_at_succ

/-- WHAT IS KNOWN OF THE WRITER THAT THE LAW HAS MADE, ahead of Reset -/
structure S26 (w wk : World) (a0 : Bool) (len1 : Nat) (off : Int) (ia : Option Addr) (il ic : Nat) (ta : Option Addr) (len8 tc len9 : Nat) (z8 : List Int) (N g9 gh : Nat) (c9 : Nat → Value) : Prop where
  zs : Zs w wk c9
  c1 : c9 1 = .slice ia il ic
  cO : c9 16389 = .int .i64 off
  cT : c9 16390 = .slice ta len8 tc
  cG : c9 16707 = .slice (some ⟨g9, 0, none⟩) len9 (len9 + 2)
  cH : c9 20154 = .slice (some ⟨gh, 0, none⟩) 3 3
  rg9 : ∃ f, wk.rowIs g9 5 (len9 + 2) f
  rh : wk.rowIs gh 5 3 hdr3
  tok : TokOK w wk N len8 z8 (.slice ta len8 tc)
  hg9 : w.heap.size < g9
  hN9 : N ≤ g9
  hgh : g9 < gh
  hin : InpOK a0 len1 ia il ic
  ho0 : 0 ≤ off
  ho1 : off ≤ 1073741824
  hil : il ≤ 1048576
  hl8 : len8 ≤ 1048576
  hl9 : len9 ≤ 1048576
theorem s40_of {w ws wq : World} {a0 : Bool} {len1 : Nat} {off : Int} {il : Nat} {ia : Option Addr} {ic : Nat} {ta : Option Addr} {len8 tc len9 : Nat} {z8 : List Int} {N g9 s1 s2 s3 s4 s5 s6 s7 gh : Nat} {c9 c' f : Nat → Value} {gi ic' : Nat} {ta' : Option Addr} {tl' tc' g' oc' : Nat}
    (S : S26 w ws a0 len1 off ia il ic ta len8 tc len9 z8 N g9 gh c9) (hr1 : ws.rowIs s1 31 16384 (fun i => c9 (5 + i))) (hl1 : g9 < s1) (hr2 : ws.rowIs s2 32 286 (fun i => c9 (16391 + i))) (hl2 : g9 < s2) (hr3 : ws.rowIs s3 33 30 (fun i => c9 (16677 + i))) (hl3 : g9 < s3) (hr4 : ws.rowIs s4 39 576 (fun i => c9 (16710 + i))) (hl4 : g9 < s4) (hr5 : ws.rowIs s5 39 576 (fun i => c9 (17286 + i))) (hl5 : g9 < s5) (hr6 : ws.rowIs s6 39 576 (fun i => c9 (17862 + i))) (hl6 : g9 < s6) (hr7 : ws.rowIs s7 43 1716 (fun i => c9 (18438 + i))) (hl7 : g9 < s7)
    (hR : Rst w.heap.size g9 off ((il : Int) + 1) (.iface 49 (.pointer (some ⟨ws.heap.size, 0, none⟩))) c9 (ws.alloc (.cells #[.slice none 0 0, .int .i64 0] 51)) wq c' gi ic' (.slice ta' tl' tc') g' oc' f)
    (hD : (ia = none ∧ ic' = 98303 ∧ (∃ gt, ta' = some ⟨gt, 0, none⟩) ∧ tl' = 0 ∧ tc' = 65535 ∧ oc' = 65599) ∨ (ia.isNone = false ∧ ic' = ic ∧ ta' = ta ∧ tl' = len8 ∧ tc' = tc ∧ oc' = len9 + 2)) :
    S40 w wq off il ia ic ta len8 tc len9 z8 N ws.heap.size s1 s2 s3 s4 s5 s6 s7 gh c9 c' f gi ic' ta' tl' tc' g' oc' := by
  have hg9 := S.hg9
  have hN9 := S.hN9
  have hgh := S.hgh
  have hb : Gr ws (ws.alloc (.cells #[.slice none 0 0, .int .i64 0] 51)) := (Below.refl _ _).alloc (Nat.le_refl _) _
  have hsz := S.zs.bel.size
  obtain ⟨f9, hG9⟩ := S.rg9
  have hlt := hG9.lt
  have hK : ∀ {k : Nat} {t : TypeId} {n : Nat} {h : Nat → Value}, ws.rowIs k t n h → g9 < k → wq.rowIs k t n h := fun hr hk => hR.fr.row (hb.row hr) (by omega) (by omega)
  refine ⟨hR.row, ?_, hR.outr, hR.f0, hR.f1, hR.c0, hR.c1, hR.c2, hR.c3, hR.c4, hR.cO, hR.cT, hR.cG, hR.cB, hR.cN, (hR.rest 20154 (by omega)).trans S.cH, hR.hsh, hR.rest, hD, S.zs.hsh, S.zs.int1, S.zs.int2, hK hr1 hl1, hK hr2 hl2, hK hr3 hl3, hK hr4 hl4, hK hr5 hl5, hK hr6 hl6, hK hr7 hl7, ?_, hK S.rh hgh, ?_, S.ho0, S.ho1, S.hil, S.hl8, S.hl9⟩
  · exact (S.zs.bel.trans (hb.mono hsz)).trans (hR.fr.bel _ (Nat.le_refl _) (by omega) (Nat.le_trans hsz hb.size))
  · have h51 : (ws.alloc (.cells #[.slice none 0 0, .int .i64 0] 51)).rowIs ws.heap.size 51 2 (fun i => if i = 0 then .slice none 0 0 else .int .i64 0) :=
      World.rowIs_alloc ws _ 51 _ fun i hi => by
        have : i < 2 := hi
        rcases i with _ | _ | i
        · rfl
        · rfl
        · omega
    exact ⟨_, hR.fr.row h51 (by omega) (by omega), rfl, rfl⟩
  · refine S.tok.keep (Nat.le_refl _) fun g h1 h2 h3 => ?_
    exact (hR.fr.blk g (Nat.lt_of_lt_of_le h3 hb.size) (by omega) (by omega)).trans (hb.block g h3)

set_option maxRecDepth 100000 in
set_option maxHeartbeats 4000000 in
theorem tail26 {u0 u1 u2 u3 u4 u5 u6 u7 u10 u11 u12 u13 u14 u15 u16 u17 u18 u19 u20 u21 u22 u23 u26 u28 u29 u30 u31 u32 u33 u34 u35 u36 u37 u38 u39 u40 u41 u42 u43 u44 u45 u46 u47 u48 u49 u50 u51 u52 u53 u54 u55 u56 u57 u58 u59 u60 u61 u62 u63 u64 u65 u66 u67 u68 u69 u70 u71 u72 u73 u74 u75 u76 u77 u78 u79 u80 u81 u82 u83 u84 u85 u86 u87 u88 u89 u90 u91 u92 u93 u94 u95 u96 u97 u98 u99 u100 u101 u102 u103 u104 u105 u106 u107 u108 u109 u110 u111 u112 u113 u114 u115 u116 u117 u118 u119 u120 u121 u122 u123 u124 u125 u126 u127 u128 u129 u130 u131 u132 u133 u134 u135 u136 u137 u138 u139 u140 u141 u142 u143 u144 u145 u146 u147 u148 u149 u150 u151 u152 u153 u154 u155 u156 u157 u158 u159 u160 u161 u162 u163 u164 u165 u166 u167 u168 u169 u170 u171 u172 u173 u174 u175 u176 u177 u178 u179 u180 u181 u182 u183 u184 u185 u186 u187 u188 u189 u190 u191 u192 u193 u194 u195 u196 u197 u198 u199 u200 u201 u202 u203 u204 u205 u206 u207 u208 u209 u210 u211 u212 u213 u214 u215 u216 u217 u218 u219 u220 u221 u222 u223 u224 u225 u226 u227 u228 u229 u230 u231 u232 u233 u234 u235 u236 u237 u238 u239 u240 u241 u242 u243 u244 u245 u246 u247 u248 u249 u250 u251 u252 u253 u254 u255 u256 u257 u258 u259 u260 u261 u262 u263 u264 u265 u266 u267 u268 u269 u270 u271 u272 u273 u274 u275 u276 u277 u278 u279 u280 u281 u282 u283 u284 u285 u286 u287 u288 u289 u290 u291 u292 u293 u294 u295 u296 u297 u298 u299 u300 u301 u302 u303 u304 u305 u306 u307 u308 u309 u310 u311 u312 u313 u314 u315 u316 u317 u318 u319 u320 u321 u322 u323 u324 u325 u326 u327 u328 u329 u330 u331 u332 u333 u334 u335 u336 u337 u338 u339 u340 u341 u342 u343 u344 u345 u346 u347 u348 u349 u350 u351 u352 u353 u354 u355 u356 u357 u358 u359 u360 u361 u362 u363 u364 u365 u366 u367 u368 u369 u370 u371 u372 u373 u374 u375 u376 u377 u378 u379 u380 u381 u382 u383 u384 u385 u386 u387 u388 u389 u390 u391 u392 u393 u394 u395 u396 u397 u398 u399 u400 u401 u402 u403 u404 u405 u406 u407 u408 u409 u410 u411 u412 u413 u414 u415 u416 u417 u418 u419 u420 u421 u422 u423 u424 u425 u426 u427 u428 u429 u430 u431 u432 u433 u434 u435 u436 u437 u438 u439 u440 u441 u442 u443 u444 u445 u446 u447 u448 u449 u450 u451 u452 u453 u454 u455 u456 u457 u458 u459 u460 u461 u462 u463 u464 u465 u466 u467 u468 u469 u470 u471 u472 u473 u474 u475 u476 u477 u478 u479 u480 u481 u482 u483 u484 u485 u486 u487 u488 u489 u490 u491 u492 u493 u494 u495 u496 u497 u498 u499 u500 u501 u502 u503 u504 u505 u506 u507 u508 u509 u510 u511 u512 u513 u514 u515 u516 u517 u518 u519 u520 u521 u522 u523 u524 u525 u526 u527 u528 u529 u530 u531 u532 u533 u534 u535 u536 u537 u538 u539 u540 u541 u542 u543 u544 u545 u546 u547 u548 u549 u550 u551 u552 u553 u554 u555 u556 u557 u558 u559 u560 u561 u562 u563 u564 u565 u566 u567 u568 u569 u570 u571 u572 : Value} (w wk : World) (a0 : Bool) (len1 : Nat) (a8 : Option Addr) (cap8 : Nat) (a9 : Option Addr) (cap9 : Nat) (off : Int) (ia : Option Addr) (il ic : Nat) (ta : Option Addr) (len8 tc len9 : Nat) (z8 : List Int) (N g9 gh : Nat) (c9 : Nat → Value)
    (w8 : Row .u32 w a8 len8 z8) (S : S26 w wk a0 len1 off ia il ic ta len8 tc len9 z8 N g9 gh c9) :
    Tail 26 w ⟨#[u0, u1, u2, u3, u4, u5, u6, u7, .slice a8 len8 cap8, .slice a9 len9 cap9, u10, u11, u12, u13, u14, u15, u16, u17, u18, u19, u20, u21, u22, u23, .bool false, .pointer (some ⟨w.heap.size, 0, none⟩), u26, .int .i64 off, u28, u29, u30, u31, u32, u33, u34, u35, u36, u37, u38, u39, u40, u41, u42, u43, u44, u45, u46, u47, u48, u49, u50, u51, u52, u53, u54, u55, u56, u57, u58, u59, u60, u61, u62, u63, u64, u65, u66, u67, u68, u69, u70, u71, u72, u73, u74, u75, u76, u77, u78, u79, u80, u81, u82, u83, u84, u85, u86, u87, u88, u89, u90, u91, u92, u93, u94, u95, u96, u97, u98, u99, u100, u101, u102, u103, u104, u105, u106, u107, u108, u109, u110, u111, u112, u113, u114, u115, u116, u117, u118, u119, u120, u121, u122, u123, u124, u125, u126, u127, u128, u129, u130, u131, u132, u133, u134, u135, u136, u137, u138, u139, u140, u141, u142, u143, u144, u145, u146, u147, u148, u149, u150, u151, u152, u153, u154, u155, u156, u157, u158, u159, u160, u161, u162, u163, u164, u165, u166, u167, u168, u169, u170, u171, u172, u173, u174, u175, u176, u177, u178, u179, u180, u181, u182, u183, u184, u185, u186, u187, u188, u189, u190, u191, u192, u193, u194, u195, u196, u197, u198, u199, u200, u201, u202, u203, u204, u205, u206, u207, u208, u209, u210, u211, u212, u213, u214, u215, u216, u217, u218, u219, u220, u221, u222, u223, u224, u225, u226, u227, u228, u229, u230, u231, u232, u233, u234, u235, u236, u237, u238, u239, u240, u241, u242, u243, u244, u245, u246, u247, u248, u249, u250, u251, u252, u253, u254, u255, u256, u257, u258, u259, u260, u261, u262, u263, u264, u265, u266, u267, u268, u269, u270, u271, u272, u273, u274, u275, u276, u277, u278, u279, u280, u281, u282, u283, u284, u285, u286, u287, u288, u289, u290, u291, u292, u293, u294, u295, u296, u297, u298, u299, u300, u301, u302, u303, u304, u305, u306, u307, u308, u309, u310, u311, u312, u313, u314, u315, u316, u317, u318, u319, u320, u321, u322, u323, u324, u325, u326, u327, u328, u329, u330, u331, u332, u333, u334, u335, u336, u337, u338, u339, u340, u341, u342, u343, u344, u345, u346, u347, u348, u349, u350, u351, u352, u353, u354, u355, u356, u357, u358, u359, u360, u361, u362, u363, u364, u365, u366, u367, u368, u369, u370, u371, u372, u373, u374, u375, u376, u377, u378, u379, u380, u381, u382, u383, u384, u385, u386, u387, u388, u389, u390, u391, u392, u393, u394, u395, u396, u397, u398, u399, u400, u401, u402, u403, u404, u405, u406, u407, u408, u409, u410, u411, u412, u413, u414, u415, u416, u417, u418, u419, u420, u421, u422, u423, u424, u425, u426, u427, u428, u429, u430, u431, u432, u433, u434, u435, u436, u437, u438, u439, u440, u441, u442, u443, u444, u445, u446, u447, u448, u449, u450, u451, u452, u453, u454, u455, u456, u457, u458, u459, u460, u461, u462, u463, u464, u465, u466, u467, u468, u469, u470, u471, u472, u473, u474, u475, u476, u477, u478, u479, u480, u481, u482, u483, u484, u485, u486, u487, u488, u489, u490, u491, u492, u493, u494, u495, u496, u497, u498, u499, u500, u501, u502, u503, u504, u505, u506, u507, u508, u509, u510, u511, u512, u513, u514, u515, u516, u517, u518, u519, u520, u521, u522, u523, u524, u525, u526, u527, u528, u529, u530, u531, u532, u533, u534, u535, u536, u537, u538, u539, u540, u541, u542, u543, u544, u545, u546, u547, u548, u549, u550, u551, u552, u553, u554, u555, u556, u557, u558, u559, u560, u561, u562, u563, u564, u565, u566, u567, u568, u569, u570, u571, u572], []⟩ wk := by
  refine ⟨_, rfl, ?_⟩
  obtain ⟨hZ, hc1, hcO, hcT, hcG, hcH, ⟨f9, hG9⟩, hHr, hTk, hg9, hN9, hgh, hIn, ho0, ho1, hil, hl8, hl9⟩ := S
  have q22 := eqlNilAny
  go_upto_region 53 with (first
    | ((with_reducible refine snap_g 31 5 16384 hZ.row ?_ (by decide) Yba.underlying31 rfl zero31 (one_h hZ) ?_ ?_ ?_); (· rfl); (· intro g; rfl); (· intro g; rfl); intro ws s1 hs1 hr1 hgr; have hl1 : g9 < s1 := (by rw [← hs1]; exact hG9.lt); clear hs1; replace hZ := hZ.gr hgr; replace hG9 := hgr.row hG9; replace hHr := hgr.row hHr; replace hTk := hTk.keep (Nat.le_refl _) (fun g _ _ h2 => hgr.block g h2); clear hgr)
    | ((with_reducible refine snap_g 32 16391 286 hZ.row ?_ (by decide) Yba.underlying32 rfl zero32 (one1 hZ 16391 286 (by decide) (by decide)) ?_ ?_ ?_); (· rfl); (· intro g; rfl); (· intro g; rfl); intro ws s2 hs2 hr2 hgr; have hl2 : g9 < s2 := (by rw [← hs2]; exact hG9.lt); clear hs2; replace hZ := hZ.gr hgr; replace hG9 := hgr.row hG9; replace hHr := hgr.row hHr; replace hTk := hTk.keep (Nat.le_refl _) (fun g _ _ h2 => hgr.block g h2); replace hr1 := hgr.row hr1; clear hgr)
    | ((with_reducible refine snap_g 33 16677 30 hZ.row ?_ (by decide) Yba.underlying33 rfl zero33 (one1 hZ 16677 30 (by decide) (by decide)) ?_ ?_ ?_); (· rfl); (· intro g; rfl); (· intro g; rfl); intro ws s3 hs3 hr3 hgr; have hl3 : g9 < s3 := (by rw [← hs3]; exact hG9.lt); clear hs3; replace hZ := hZ.gr hgr; replace hG9 := hgr.row hG9; replace hHr := hgr.row hHr; replace hTk := hTk.keep (Nat.le_refl _) (fun g _ _ h2 => hgr.block g h2); replace hr1 := hgr.row hr1; replace hr2 := hgr.row hr2; clear hgr)
    | ((with_reducible refine snap_g 39 16710 576 hZ.row ?_ (by decide) Yba.underlying39 rfl zero39 (one2 hZ 16710 576 (by decide) (by decide)) ?_ ?_ ?_); (· rfl); (· intro g; rfl); (· intro g; rfl); intro ws s4 hs4 hr4 hgr; have hl4 : g9 < s4 := (by rw [← hs4]; exact hG9.lt); clear hs4; replace hZ := hZ.gr hgr; replace hG9 := hgr.row hG9; replace hHr := hgr.row hHr; replace hTk := hTk.keep (Nat.le_refl _) (fun g _ _ h2 => hgr.block g h2); replace hr1 := hgr.row hr1; replace hr2 := hgr.row hr2; replace hr3 := hgr.row hr3; clear hgr)
    | ((with_reducible refine snap_g 39 17286 576 hZ.row ?_ (by decide) Yba.underlying39 rfl zero39 (one2 hZ 17286 576 (by decide) (by decide)) ?_ ?_ ?_); (· rfl); (· intro g; rfl); (· intro g; rfl); intro ws s5 hs5 hr5 hgr; have hl5 : g9 < s5 := (by rw [← hs5]; exact hG9.lt); clear hs5; replace hZ := hZ.gr hgr; replace hG9 := hgr.row hG9; replace hHr := hgr.row hHr; replace hTk := hTk.keep (Nat.le_refl _) (fun g _ _ h2 => hgr.block g h2); replace hr1 := hgr.row hr1; replace hr2 := hgr.row hr2; replace hr3 := hgr.row hr3; replace hr4 := hgr.row hr4; clear hgr)
    | ((with_reducible refine snap_g 39 17862 576 hZ.row ?_ (by decide) Yba.underlying39 rfl zero39 (one2 hZ 17862 576 (by decide) (by decide)) ?_ ?_ ?_); (· rfl); (· intro g; rfl); (· intro g; rfl); intro ws s6 hs6 hr6 hgr; have hl6 : g9 < s6 := (by rw [← hs6]; exact hG9.lt); clear hs6; replace hZ := hZ.gr hgr; replace hG9 := hgr.row hG9; replace hHr := hgr.row hHr; replace hTk := hTk.keep (Nat.le_refl _) (fun g _ _ h2 => hgr.block g h2); replace hr1 := hgr.row hr1; replace hr2 := hgr.row hr2; replace hr3 := hgr.row hr3; replace hr4 := hgr.row hr4; replace hr5 := hgr.row hr5; clear hgr)
    | ((with_reducible refine snap_g 43 18438 1716 hZ.row ?_ (by decide) Yba.underlying43 rfl zero43 (one2 hZ 18438 1716 (by decide) (by decide)) ?_ ?_ ?_); (· rfl); (· intro g; rfl); (· intro g; rfl); intro ws s7 hs7 hr7 hgr; have hl7 : g9 < s7 := (by rw [← hs7]; exact hG9.lt); clear hs7; replace hZ := hZ.gr hgr; replace hG9 := hgr.row hG9; replace hHr := hgr.row hHr; replace hTk := hTk.keep (Nat.le_refl _) (fun g _ _ h2 => hgr.block g h2); replace hr1 := hgr.row hr1; replace hr2 := hgr.row hr2; replace hr3 := hgr.row hr3; replace hr4 := hgr.row hr4; replace hr5 := hgr.row hr5; replace hr6 := hgr.row hr6; clear hgr)
    | ((with_reducible refine load1_g 22 1 (.slice ia il ic) hZ.row ?_ hc1 (by decide) Yba.underlying22 rfl ?_); (· rfl))
    | ((with_reducible refine load1_g 24 16390 (.slice ta len8 tc) hZ.row ?_ hcT (by decide) Yba.underlying24 rfl ?_); (· rfl)))
  have S2 : S26 w ws a0 len1 off ia il ic ta len8 tc len9 z8 N g9 gh c9 := ⟨hZ, hc1, hcO, hcT, hcG, hcH, ⟨f9, hG9⟩, hHr, hTk, hg9, hN9, hgh, hIn, ho0, ho1, hil, hl8, hl9⟩
  obtain ⟨gw, hgw⟩ : ∃ gw, ws.heap.size = gw := ⟨_, rfl⟩
  rw [hgw]
  go_cut [] from 263 to 266 (fun wx => ∃ c' f gi ic' ta' tl' tc' g' oc', S40 w wx off il ia ic ta len8 tc len9 z8 N gw s1 s2 s3 s4 s5 s6 s7 gh c9 c' f gi ic' ta' tl' tc' g' oc')
  case first =>
    go_wp2_with (go_at_call 5; refine (reset_all a0 len1 w.heap.size ia il ic g9 len9 (len9 + 2) ta len8 tc _ _ off _ _ hIn (hZ.row.alloc _) hZ.hsh hcO ho0 (by omega) hc1 hcT hcG (hG9.alloc _) (by omega) (by unfold maxLen; omega) (by omega) rfl).mono ?_; rintro e wq ⟨rfl, c', f, gi, ic', ta', tl', tc', g', oc', hR, hD⟩)
    go_meet
    subst hgw
    exact ⟨_, _, _, _, _, _, _, _, _, s40_of S2 hr1 hl1 hr2 hl2 hr3 hl3 hr4 hl4 hr5 hl5 hr6 hl6 hr7 hl7 hR hD⟩
  case rest =>
    obtain ⟨c', f, gi, ic', ta', tl', tc', g', oc', hS⟩ := hcut
    apply_assumption
    exact (tail40 w _ a8 cap8 a9 cap9 off il ia ic ta len8 tc len9 z8 N gw s1 s2 s3 s4 s5 s6 s7 gh c9 c' f gi ic' ta' tl' tc' g' oc' w8 hS).use rfl
end Go.Proofs.Ybulkeass
