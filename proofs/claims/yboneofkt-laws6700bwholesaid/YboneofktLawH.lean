/-
  The law: the readers.
-/
import Derived.Test.YboneofktLawG
namespace Go.Proofs.Yboneofkt
open Go.RowKit

def At30 (p : Ps) (w : World) : Prop := ∀ (b19 c19 b31 c31 b33 b34 b39 c39 : Nat) (ss : Nat → Nat) (cv ct Bb Bz Bh Bk : Nat) (rv : Value) (BSf : Nat → Value) (w0 : World) (W : World), M25 p w b19 b31 b33 b34 b39 c39 ss cv ct Bb Bz Bh Bk rv BSf w0 W → ∀ (u0 u1 u2 u3 u4 u5 u6 u7 u8 u9 u10 u11 u12 u15 u16 u17 u18 u21 u22 u23 u24 u25 u26 u28 u29 u30 u32 u35 u36 u37 u38 u42 u43 u44 u45 u46 u47 u48 u49 u50 u51 u52 u53 u54 u55 u56 u57 u58 u59 u60 u61 u62 u63 u64 u65 u66 u67 u68 u69 u70 u71 u72 u73 u74 u75 u76 u77 u78 u79 u80 u81 u82 u83 u84 u85 u86 u87 u88 u89 u90 u91 u92 u93 u94 u95 u96 u97 u98 u99 u100 u101 u102 u103 u104 u105 u106 u107 u108 u109 u110 u111 u112 u113 u114 u115 u116 u117 u118 u119 u120 u121 u122 u123 u124 u125 u126 u127 u128 u129 u130 u131 u132 u133 u134 u135 u136 u137 u138 u139 u140 u141 u142 u143 u144 u145 u146 u147 u148 u149 u150 u151 u152 u153 u154 u155 u156 u157 u158 u159 u160 u161 u162 u163 u164 u165 u166 u167 u168 u169 u170 u171 u172 u173 u174 u175 u176 u177 u178 u179 u180 u181 u182 u183 u184 u185 u186 u187 u188 u189 u190 u191 u192 u193 u194 u195 u196 u197 u198 u199 u200 u201 u202 u203 u204 u205 u206 u207 u208 u209 u210 u211 u212 u213 u214 u215 u216 u217 u218 u219 u220 u221 u222 u223 u224 u225 u226 u227 u228 u229 u230 u231 u232 u233 u234 u235 u236 u237 u238 u239 u240 u241 u242 u243 u244 u245 u246 u247 u248 u249 u250 u251 u252 u253 u254 u255 u256 u257 u258 u259 u260 u261 u262 u263 u264 u265 u266 u267 u268 u269 u270 u271 u272 u273 u274 u275 u276 u277 u278 u279 u280 u281 u282 u283 u284 u285 u286 u287 u288 u289 u290 u291 u292 u293 u294 u295 u296 u297 u298 u299 u300 u301 u302 u303 u304 u305 u306 u307 u308 u309 u310 u311 u312 u313 u314 u315 u316 u317 u318 u319 u320 u321 u322 u323 u324 u325 u326 u327 u328 u329 u330 u331 u332 u333 u334 u335 u336 u337 u338 u339 u340 u341 u342 u343 u344 u345 u346 u347 u348 u349 u350 u351 u352 u353 u354 u355 u356 u357 u358 u359 u360 u361 u362 u363 u364 u365 u366 u367 u368 u369 u370 u371 u372 u373 u374 u375 u376 u377 u378 u379 u380 u381 u382 u383 u384 u385 u386 u387 u388 u389 u390 u391 u392 u393 u394 u395 u396 u397 u398 u399 u400 u401 u402 u403 u404 u405 u406 u407 u408 u409 u410 u411 u412 u413 u414 u415 u416 u417 u418 u419 u420 u421 u422 u423 u424 u425 u426 u427 u428 u429 u430 u431 u432 u433 u434 u435 u436 u437 u438 u439 u440 u441 u442 u443 u444 u445 u446 u447 u448 u449 u450 u451 u452 u453 u454 u455 u456 u457 u458 u459 u460 u461 u462 u463 u464 u465 u466 u467 u468 u469 u470 u471 u472 u473 u474 u475 u476 u477 u478 u479 u480 u481 u482 u483 u484 u485 u486 u487 u488 u489 u490 u491 u492 u493 u494 u495 u496 u497 u498 u499 u500 u501 u502 u503 u504 u505 u506 u507 u508 u509 u510 u511 u512 u513 u514 u515 u516 u517 u518 u519 u520 u521 u522 u523 u524 u525 u526 u527 u528 u529 u530 u531 u532 u533 u534 u535 u536 u537 u538 u539 u540 u541 u542 u543 u544 u545 u546 u547 u548 u549 u550 u551 u552 u553 u554 u555 u556 u557 u558 u559 u560 u561 u562 u563 u564 u565 u566 u567 u568 u569 u570 u571 u572 u573 u574 u575 u576 u577 u578 u579 u580 u581 u582 u583 u584 u585 u586 u587 u588 u589 u590 u591 u592 u593 u594 u595 u596 : Value),
    Code.wp Ybgt.prog (tlN 30 (Ybgt.f3.body.getD .skip)) (bodyPost Ybgt.prog Ybgt.f3 (Post w)) ⟨#[u0, u1, u2, u3, u4, u5, u6, u7, u8, u9, u10, u11, u12, .int .i64 (p.E : Int), .int .i64 (p.S : Int), u15, u16, u17, u18, .slice (some ⟨b19, 0, none⟩) p.n c19, .slice (some ⟨p.gb, 0, none⟩) p.m p.m, u21, u22, u23, u24, u25, u26, .int .i64 p.L, u28, u29, u30, .slice (some ⟨b31, 0, none⟩) p.E c31, u32, .slice (some ⟨b33, 0, none⟩) p.S p.S, .slice (some ⟨b34, 0, none⟩) p.S p.S, u35, u36, u37, u38, .slice (some ⟨b39, 0, none⟩) p.m c39, .pointer (some ⟨p.xb, 0, none⟩), .pointer (some ⟨ct, 0, none⟩), u42, u43, u44, u45, u46, u47, u48, u49, u50, u51, u52, u53, u54, u55, u56, u57, u58, u59, u60, u61, u62, u63, u64, u65, u66, u67, u68, u69, u70, u71, u72, u73, u74, u75, u76, u77, u78, u79, u80, u81, u82, u83, u84, u85, u86, u87, u88, u89, u90, u91, u92, u93, u94, u95, u96, u97, u98, u99, u100, u101, u102, u103, u104, u105, u106, u107, u108, u109, u110, u111, u112, u113, u114, u115, u116, u117, u118, u119, u120, u121, u122, u123, u124, u125, u126, u127, u128, u129, u130, u131, u132, u133, u134, u135, u136, u137, u138, u139, u140, u141, u142, u143, u144, u145, u146, u147, u148, u149, u150, u151, u152, u153, u154, u155, u156, u157, u158, u159, u160, u161, u162, u163, u164, u165, u166, u167, u168, u169, u170, u171, u172, u173, u174, u175, u176, u177, u178, u179, u180, u181, u182, u183, u184, u185, u186, u187, u188, u189, u190, u191, u192, u193, u194, u195, u196, u197, u198, u199, u200, u201, u202, u203, u204, u205, u206, u207, u208, u209, u210, u211, u212, u213, u214, u215, u216, u217, u218, u219, u220, u221, u222, u223, u224, u225, u226, u227, u228, u229, u230, u231, u232, u233, u234, u235, u236, u237, u238, u239, u240, u241, u242, u243, u244, u245, u246, u247, u248, u249, u250, u251, u252, u253, u254, u255, u256, u257, u258, u259, u260, u261, u262, u263, u264, u265, u266, u267, u268, u269, u270, u271, u272, u273, u274, u275, u276, u277, u278, u279, u280, u281, u282, u283, u284, u285, u286, u287, u288, u289, u290, u291, u292, u293, u294, u295, u296, u297, u298, u299, u300, u301, u302, u303, u304, u305, u306, u307, u308, u309, u310, u311, u312, u313, u314, u315, u316, u317, u318, u319, u320, u321, u322, u323, u324, u325, u326, u327, u328, u329, u330, u331, u332, u333, u334, u335, u336, u337, u338, u339, u340, u341, u342, u343, u344, u345, u346, u347, u348, u349, u350, u351, u352, u353, u354, u355, u356, u357, u358, u359, u360, u361, u362, u363, u364, u365, u366, u367, u368, u369, u370, u371, u372, u373, u374, u375, u376, u377, u378, u379, u380, u381, u382, u383, u384, u385, u386, u387, u388, u389, u390, u391, u392, u393, u394, u395, u396, u397, u398, u399, u400, u401, u402, u403, u404, u405, u406, u407, u408, u409, u410, u411, u412, u413, u414, u415, u416, u417, u418, u419, u420, u421, u422, u423, u424, u425, u426, u427, u428, u429, u430, u431, u432, u433, u434, u435, u436, u437, u438, u439, u440, u441, u442, u443, u444, u445, u446, u447, u448, u449, u450, u451, u452, u453, u454, u455, u456, u457, u458, u459, u460, u461, u462, u463, u464, u465, u466, u467, u468, u469, u470, u471, u472, u473, u474, u475, u476, u477, u478, u479, u480, u481, u482, u483, u484, u485, u486, u487, u488, u489, u490, u491, u492, u493, u494, u495, u496, u497, u498, u499, u500, u501, u502, u503, u504, u505, u506, u507, u508, u509, u510, u511, u512, u513, u514, u515, u516, u517, u518, u519, u520, u521, u522, u523, u524, u525, u526, u527, u528, u529, u530, u531, u532, u533, u534, u535, u536, u537, u538, u539, u540, u541, u542, u543, u544, u545, u546, u547, u548, u549, u550, u551, u552, u553, u554, u555, u556, u557, u558, u559, u560, u561, u562, u563, u564, u565, u566, u567, u568, u569, u570, u571, u572, u573, u574, u575, u576, u577, u578, u579, u580, u581, u582, u583, u584, u585, u586, u587, u588, u589, u590, u591, u592, u593, u594, u595, u596], []⟩ W

/-- an owned row of numbers, opened. -/
theorem own_open {w : World} {base : Nat} {v : Value} {ks : List Nat} (h : w.ownsRow base 21 1 v ks.length (i32s ks)) : ∃ pr c, v = .slice pr ks.length c ∧ (0 < ks.length → ∃ g, pr = some ⟨g, 0, none⟩ ∧ ∀ i, i < ks.length → w.cell? ⟨g, i, none⟩ = some (.int .i32 ((ks[i]! : Nat) : Int))) := by
  rcases h.2 with ⟨h1, h2⟩ | ⟨g, cap, cur, h1, h2, h3, h4, _, h6, h7⟩
  · exact ⟨none, 0, by rw [h1, h2], fun h => by omega⟩
  · refine ⟨some ⟨g, 0, none⟩, cap, h1, fun _ => ⟨g, rfl, fun i hi => ?_⟩⟩
    rw [cell_of h3]
    have := congrArg (fun l => l[i]?) h7
    simp only [List.getElem?_take, i32s, List.getElem?_map] at this
    rw [if_pos (by omega), List.getElem?_eq_getElem hi] at this
    rw [getElem!_pos ks i hi]
    simpa using this

theorem equalR {w : World} {base base' : Nat} {v v' : Value} {ks : List Nat} (hl : ks.length ≤ 1000000) (h : w.ownsRow base 21 1 v ks.length (i32s ks)) (h' : w.ownsRow base' 21 1 v' ks.length (i32s ks)) : Calls Ybgt.prog 7 #[v, v'] w fun e w' => e = .returned (.bool true) ∧ ∃ q, w' = w.drewN q := by
  obtain ⟨pr, c, rfl, h1⟩ := own_open h
  obtain ⟨pr', c', rfl, h2⟩ := own_open h'
  by_cases h0 : 0 < ks.length
  · obtain ⟨g, rfl, h3⟩ := h1 h0
    obtain ⟨g', rfl, h4⟩ := h2 h0
    exact equal7 g g' ks.length c c' (fun i => ((ks[i]! : Nat) : Int)) w hl h3 h4
  · have : ks.length = 0 := by omega
    rw [this]
    exact equal7_none pr pr' c c' w

set_option maxHeartbeats 4000000 in
set_option maxRecDepth 200000 in
theorem lawH (p : Ps) (w : World) (HNEXT : At30 p w) : At27 p w := by
  unfold At27
  intro b19 c19 b31 c31 b33 b34 b39 c39 ss cv ct Bb Bz Bh Bk rv BSf w0 W hM u0 u1 u2 u3 u4 u5 u6 u7 u8 u9 u10 u11 u12 u15 u16 u17 u18 u21 u22 u23 u24 u25 u26 u28 u29 u30 u32 u35 u36 u37 u38 u42 u43 u44 u45 u46 u48 u49 u50 u51 u52 u53 u54 u55 u56 u57 u58 u59 u60 u61 u62 u63 u64 u65 u66 u67 u68 u69 u70 u71 u72 u73 u74 u75 u76 u77 u78 u79 u80 u81 u82 u83 u84 u85 u86 u87 u88 u89 u90 u91 u92 u93 u94 u95 u96 u97 u98 u99 u100 u101 u102 u103 u104 u105 u106 u107 u108 u109 u110 u111 u112 u113 u114 u115 u116 u117 u118 u119 u120 u121 u122 u123 u124 u125 u126 u127 u128 u129 u130 u131 u132 u133 u134 u135 u136 u137 u138 u139 u140 u141 u142 u143 u144 u145 u146 u147 u148 u149 u150 u151 u152 u153 u154 u155 u156 u157 u158 u159 u160 u161 u162 u163 u164 u165 u166 u167 u168 u169 u170 u171 u172 u173 u174 u175 u176 u177 u178 u179 u180 u181 u182 u183 u184 u185 u186 u187 u188 u189 u190 u191 u192 u193 u194 u195 u196 u197 u198 u199 u200 u201 u202 u203 u204 u205 u206 u207 u208 u209 u210 u211 u212 u213 u214 u215 u216 u217 u218 u219 u220 u221 u222 u223 u224 u225 u226 u227 u228 u229 u230 u231 u232 u233 u234 u235 u236 u237 u238 u239 u240 u241 u242 u243 u244 u245 u246 u247 u248 u249 u250 u251 u252 u253 u254 u255 u256 u257 u258 u259 u260 u261 u262 u263 u264 u265 u266 u267 u268 u269 u270 u271 u272 u273 u274 u275 u276 u277 u278 u279 u280 u281 u282 u283 u284 u285 u286 u287 u288 u289 u290 u291 u292 u293 u294 u295 u296 u297 u298 u299 u300 u301 u302 u303 u304 u305 u306 u307 u308 u309 u310 u311 u312 u313 u314 u315 u316 u317 u318 u319 u320 u321 u322 u323 u324 u325 u326 u327 u328 u329 u330 u331 u332 u333 u334 u335 u336 u337 u338 u339 u340 u341 u342 u343 u344 u345 u346 u347 u348 u349 u350 u351 u352 u353 u354 u355 u356 u357 u358 u359 u360 u361 u362 u363 u364 u365 u366 u367 u368 u369 u370 u371 u372 u373 u374 u375 u376 u377 u378 u379 u380 u381 u382 u383 u384 u385 u386 u387 u388 u389 u390 u391 u392 u393 u394 u395 u396 u397 u398 u399 u400 u401 u402 u403 u404 u405 u406 u407 u408 u409 u410 u411 u412 u413 u414 u415 u416 u417 u418 u419 u420 u421 u422 u423 u424 u425 u426 u427 u428 u429 u430 u431 u432 u433 u434 u435 u436 u437 u438 u439 u440 u441 u442 u443 u444 u445 u446 u447 u448 u449 u450 u451 u452 u453 u454 u455 u456 u457 u458 u459 u460 u461 u462 u463 u464 u465 u466 u467 u468 u469 u470 u471 u472 u473 u474 u475 u476 u477 u478 u479 u480 u481 u482 u483 u484 u485 u486 u487 u488 u489 u490 u491 u492 u493 u494 u495 u496 u497 u498 u499 u500 u501 u502 u503 u504 u505 u506 u507 u508 u509 u510 u511 u512 u513 u514 u515 u516 u517 u518 u519 u520 u521 u522 u523 u524 u525 u526 u527 u528 u529 u530 u531 u532 u533 u534 u535 u536 u537 u538 u539 u540 u541 u542 u543 u544 u545 u546 u547 u548 u549 u550 u551 u552 u553 u554 u555 u556 u557 u558 u559 u560 u561 u562 u563 u564 u565 u566 u567 u568 u569 u570 u571 u572 u573 u574 u575 u576 u577 u578 u579 u580 u581 u582 u583 u584 u585 u586 u587 u588 u589 u590 u591 u592 u593 u594 u595 u596
  have HX : Hid (At30 p w) := HNEXT
  have HM0 : Hid (M25 p w b19 b31 b33 b34 b39 c39 ss cv ct Bb Bz Bh Bk rv BSf w0 W) := hM
  have HOK : Hid (Ok p) := hM.ok
  have hS := hM.ok.S
  obtain ⟨i0, hi0, hz0, hz1, hz2⟩ := info_parts Ybgt.info21
  clear HNEXT hM
  conv => arg 2; whnf
  conv => arg 4; dsimp only
  refine seq_var (fun K hK => ?_)
  have HK27 : Hid _ := hK
  clear hK
  go_wp2
  go_loopw [48, 47] (fun v48 v47 wr => ∃ s : Nat, v48 = .int .i64 (s : Int) ∧ s ≤ p.S ∧ Below W.heap.size W wr ∧ wr.ownsRow W.heap.size 21 1 v47 (rdl p.cn s).length (i32s (rdl p.cn s))) (fun v48 _ _ => p.S - (intOf v48).toNat)
  case atStart => exact ⟨0, rfl, Nat.zero_le _, Below.refl _ _, World.ownsRow_nil W W.heap.size 21 1⟩
  case round =>
    rename World => W2
    obtain ⟨s, rfl, hsS, hbel, hown⟩ := hrel
    have hM := HM0.out.frame hbel
    by_cases hlt : s < p.S
    · have hlt' : (s : Int) < (p.S : Int) := by omega
      have c34 := hM.r34.cell hlt
      unfold vI64 at c34
      obtain ⟨c, hc⟩ : ∃ c, c = p.cn s := ⟨_, rfl⟩
      rw [← hc] at c34
      have HRS := rdl_succ p.cn s
      rw [← hc] at HRS
      have hcb : c ≤ 4096 := by rw [hc]; exact HOK.out.cn s
      by_cases hc0 : 0 < c
      · have hc0' : (c : Int) > 0 := by omega
        rw [if_pos hc0] at HRS
        have HRS : Hid (rdl p.cn (s + 1) = rdl p.cn s ++ [s]) := HRS
        have hlen := rdl_len p.cn s
        have hnw : IntKind.i32.wrap (s : Int) = s := by simp [IntKind.wrap, IntKind.bits, IntKind.signed]; omega
        have HOW : Hid ((W2.alloc (.cells #[.int .i32 (s : Int)] 21)).ownsRow W.heap.size 21 1 u47 (rdl p.cn s).length (i32s (rdl p.cn s))) := hown.alloc _
        have hbs := hbel.size
        have HSZ : Hid (W.heap.size ≤ (W2.alloc (.cells #[.int .i32 (s : Int)] 21)).heap.size) := by rw [World.size_alloc]; exact Nat.le_succ_of_le hbs
        have HLC : Hid _ := lit_cell W2 (.int .i32 (s : Int)) 21
        have HBL : Hid (Below W.heap.size W W2) := hbel
        clear hown hbs hbel hM hc
        go_wp2_with (at_builtin; refine wpList_append_own _ rfl (.tmp 320) (.tmp 323) 24 rfl W.heap.size 21 i0 (.int .i32 0) 1 4 Ybgt.underlying24 hi0 hz0 hz1 hz2 rfl (by omega) u47 (rdl p.cn s).length (i32s (rdl p.cn s)) rfl HOW.out _ 1 _ [.int .i32 (s : Int)] rfl rfl HLC.out (by simp [Value.oneCell']) (by simp only [maxLen]; omega) (by omega) HSZ.out ?_; intro kv' W6 hk6 hg6 hnil)
        have hk7 : W6.ownsRow W.heap.size 21 1 kv' (rdl p.cn (s + 1)).length (i32s (rdl p.cn (s + 1))) := by
          rw [HRS.out]
          simpa [i32s] using hk6
        have hb7 : Below W.heap.size W W6 := (HBL.out.alloc HBL.out.size _).grown hg6 HSZ.out (fun k hk => ((HOW.out).lt k hk).1)
        clear hk6 hg6 hnil
        go_roundw
        case rel => exact ⟨s + 1, by go_num, by omega, hb7, hk7⟩
        case measure => simp [intOf]; omega
      · have hc0' : ¬ (c : Int) > 0 := by omega
        rw [if_neg hc0] at HRS
        have HOW : Hid (W2.ownsRow W.heap.size 21 1 u47 (rdl p.cn (s + 1)).length (i32s (rdl p.cn (s + 1)))) := by
          show World.ownsRow _ _ _ _ _ _ _
          rw [HRS]; exact hown
        have HB : Hid (Below W.heap.size W W2) := hbel
        clear hown HRS hM hbel hc
        go_wp2
        go_roundw
        case rel => exact ⟨s + 1, by go_num, by omega, HB.out, HOW.out⟩
        case measure => simp [intOf]; omega
    · have hlt' : ¬ (s : Int) < (p.S : Int) := by omega
      obtain rfl : s = p.S := by omega
      have HM : Hid (M25 p w b19 b31 b33 b34 b39 c39 ss cv ct Bb Bz Bh Bk rv BSf w0 W2) := hM
      have hl := rdl_len p.cn p.S
      have HEQ : Hid (Calls Ybgt.prog 7 #[rv, u47] W2 fun e w' => e = .returned (.bool true) ∧ ∃ q, w' = W2.drewN q) := equalR (by omega) hM.n2.rd hown
      have c1 : W2.cell? ⟨ct, 1, none⟩ = some rv := by rw [cell_of hM.n2.ctb]; rfl
      have c4 : W2.cell? ⟨ct, 4, none⟩ = some (.slice (some ⟨Bh, 0, none⟩) p.E p.E) := by rw [cell_of hM.n2.ctb]; rfl
      have c5 : W2.cell? ⟨ct, 5, none⟩ = some (.slice (some ⟨Bk, 0, none⟩) p.E p.E) := by rw [cell_of hM.n2.ctb]; rfl
      clear hM hown hbel
      go_wp2
      refine HK27.out _ _ ?_
      clear HK27
      refine seq_var (fun K hK => ?_)
      have HK28 : Hid _ := hK
      clear hK
      go_wp2_with (go_at_call 7; refine HEQ.out.mono ?_; rintro e w' ⟨rfl, q, rfl⟩)
      refine HK28.out _ _ ?_
      clear HK28 K
      refine seq_var (fun K hK => ?_)
      have HK29 : Hid _ := hK
      clear hK
      go_wp2
      refine HK29.out _ _ ?_
      clear HK29 K
      have hx := HX.out
      unfold At30 at hx
      apply hx _ c19 _ c31 _ _ _ _ _ _ _ _ _ _ _ _ _ _ _ (HM.out.frame (below_drewN (Below.refl _ _) _))
end Go.Proofs.Yboneofkt
