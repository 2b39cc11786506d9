/-
  The law: the gets.
-/
import Derived.Test.YboneofktLawB
namespace Go.Proofs.Yboneofkt
open Go.RowKit

/-- cell c of get g. -/
def gc (ss st en : Nat → Nat) (g : Nat) : Nat → Value
  | 0 => .int .i32 (ss g : Int)
  | 3 => .int .i64 (st g : Int)
  | 4 => .int .i64 (en g : Int)
  | _ => .int .i64 0
def fGs (ss st en : Nat → Nat) (j : Nat) : Value := gc ss st en (j / 6) (j % 6)
def zGs (j : Nat) : Value := (#[.int .i32 0, .int .i64 0, .int .i64 0, .int .i64 0, .int .i64 0, .int .i64 0] : Array Value)[j % 6]?.getD default

theorem get_round {W : World} {b20 m k s a b : Nat} {ss st en : Nat → Nat} (h : Rw W b20 30 (m * 6) (fun j => if j / 6 < k then fGs ss st en j else zGs j)) (e1 : ss k = s) (e2 : st k = a) (e3 : en k = b) :
    Rw ((((((W.setCell ⟨b20, k * 6, none⟩ (.int .i32 (s : Int))).setCell ⟨b20, k * 6 + 1, none⟩ (.int .i64 0)).setCell ⟨b20, k * 6 + 2, none⟩ (.int .i64 0)).setCell ⟨b20, k * 6 + 3, none⟩ (.int .i64 (a : Int))).setCell ⟨b20, k * 6 + 4, none⟩ (.int .i64 (b : Int))).setCell ⟨b20, k * 6 + 5, none⟩ (.int .i64 0)) b20 30 (m * 6) (fun j => if j / 6 < k + 1 then fGs ss st en j else zGs j) := by
  refine ((((((h.set _ _).set _ _).set _ _).set _ _).set _ _).set _ _).congr (fun i _ => ?_)
  by_cases h1 : i / 6 < k
  · rw [if_neg (by omega), if_neg (by omega), if_neg (by omega), if_neg (by omega), if_neg (by omega), if_neg (by omega), if_pos h1, if_pos (by omega)]
  · by_cases h2 : i / 6 = k
    · have hs : i / 6 < k + 1 := by omega
      rw [if_pos hs]
      have hc : i % 6 = 0 ∨ i % 6 = 1 ∨ i % 6 = 2 ∨ i % 6 = 3 ∨ i % 6 = 4 ∨ i % 6 = 5 := by omega
      unfold fGs
      rw [h2]
      rcases hc with hc | hc | hc | hc | hc | hc
      · rw [if_neg (by omega), if_neg (by omega), if_neg (by omega), if_neg (by omega), if_neg (by omega), if_pos (by omega), hc]
        simp only [gc, e1]
      · rw [if_neg (by omega), if_neg (by omega), if_neg (by omega), if_neg (by omega), if_pos (by omega), hc]
        simp only [gc]
      · rw [if_neg (by omega), if_neg (by omega), if_neg (by omega), if_pos (by omega), hc]
        simp only [gc]
      · rw [if_neg (by omega), if_neg (by omega), if_pos (by omega), hc]
        simp only [gc, e2]
      · rw [if_neg (by omega), if_pos (by omega), hc]
        simp only [gc, e3]
      · rw [if_pos (by omega), hc]
        simp only [gc]
    · rw [if_neg (by omega), if_neg (by omega), if_neg (by omega), if_neg (by omega), if_neg (by omega), if_neg (by omega), if_neg h1, if_neg (by omega)]
theorem row_round {W : World} {b m k s : Nat} {f : Nat → Nat} {z : Value} (h : Rw W b 21 m (fun i => if i < k then vI32 f i else z)) (e1 : f k = s) : Rw (W.setCell ⟨b, k, none⟩ (.int .i32 (s : Int))) b 21 m (fun i => if i < k + 1 then vI32 f i else z) := (h.set k (.int .i32 (s : Int))).congr (fun i _ => by
  by_cases e : i = k
  · subst e
    simp [vI32, e1]
  · by_cases e2 : i < k
    · simp [e, e2, Nat.lt_succ_of_lt e2]
    · have : ¬ i < k + 1 := by omega
      simp [e, e2, this])

/-- the memory behind the gets. -/
structure M13 (w : World) (n m E : Nat) (rs ss st en : Nat → Nat) (b16 b19 b20 b21 b28 : Nat) (W : World) : Prop where
  bel : Below w.heap.size w W
  r16 : Rw W b16 21 n (vI32 rs)
  r19 : Rw W b19 21 n (vI32 rs)
  r20 : Rw W b20 30 (m * 6) (fGs ss st en)
  r21 : Rw W b21 21 m (vI32 ss)
  r28 : Rw W b28 3 E (fun _ => .int .i64 0)
  o : w.heap.size ≤ b16 ∧ b16 < b19 ∧ b19 < b20 ∧ b20 < b21 ∧ b21 < b28

def At13 (ar ag am : Option Addr) (n m q capr capg capm el ns E S : Nat) (L : Int) (rs ss st en : Nat → Nat) (w : World) : Prop := ∀ (b16 b19 c19 b20 b21 b28 : Nat) (W : World), M13 w n m E rs ss st en b16 b19 b20 b21 b28 W → ∀ (u6 u7 u8 u9 u10 u11 u17 u18 u22 u23 u24 u25 u26 u29 u30 u31 u32 u33 u34 u35 u36 u37 u38 u39 u40 u41 u42 u43 u44 u45 u46 u47 u48 u49 u50 u51 u52 u53 u54 u55 u56 u57 u58 u59 u60 u61 u62 u63 u64 u65 u66 u67 u68 u69 u70 u71 u72 u73 u74 u75 u76 u77 u78 u79 u80 u81 u82 u83 u84 u85 u86 u87 u88 u89 u90 u91 u92 u93 u94 u95 u96 u97 u98 u99 u100 u101 u102 u103 u104 u105 u106 u107 u108 u109 u110 u111 u112 u113 u114 u115 u116 u117 u118 u119 u120 u121 u122 u123 u124 u125 u126 u127 u128 u129 u130 u131 u132 u133 u134 u135 u136 u137 u138 u139 u140 u141 u142 u143 u144 u145 u146 u147 u148 u149 u150 u151 u152 u153 u154 u155 u156 u157 u158 u159 u160 u161 u162 u163 u164 u165 u166 u167 u168 u169 u170 u171 u172 u173 u174 u175 u176 u177 u178 u179 u180 u181 u182 u183 u184 u185 u186 u187 u188 u189 u190 u191 u192 u193 u194 u195 u196 u197 u198 u199 u200 u201 u202 u203 u204 u205 u206 u207 u208 u209 u210 u211 u212 u213 u214 u215 u216 u217 u218 u219 u220 u221 u222 u223 u224 u225 u226 u227 u228 u229 u230 u231 u232 u233 u234 u235 u236 u237 u238 u239 u240 u241 u242 u243 u244 u245 u246 u247 u248 u249 u250 u251 u252 u253 u254 u255 u256 u257 u258 u259 u260 u261 u262 u263 u264 u265 u266 u267 u268 u269 u270 u271 u272 u273 u274 u275 u276 u277 u278 u279 u280 u281 u282 u283 u284 u285 u286 u287 u288 u289 u290 u291 u292 u293 u294 u295 u296 u297 u298 u299 u300 u301 u302 u303 u304 u305 u306 u307 u308 u309 u310 u311 u312 u313 u314 u315 u316 u317 u318 u319 u320 u321 u322 u323 u324 u325 u326 u327 u328 u329 u330 u331 u332 u333 u334 u335 u336 u337 u338 u339 u340 u341 u342 u343 u344 u345 u346 u347 u348 u349 u350 u351 u352 u353 u354 u355 u356 u357 u358 u359 u360 u361 u362 u363 u364 u365 u366 u367 u368 u369 u370 u371 u372 u373 u374 u375 u376 u377 u378 u379 u380 u381 u382 u383 u384 u385 u386 u387 u388 u389 u390 u391 u392 u393 u394 u395 u396 u397 u398 u399 u400 u401 u402 u403 u404 u405 u406 u407 u408 u409 u410 u411 u412 u413 u414 u415 u416 u417 u418 u419 u420 u421 u422 u423 u424 u425 u426 u427 u428 u429 u430 u431 u432 u433 u434 u435 u436 u437 u438 u439 u440 u441 u442 u443 u444 u445 u446 u447 u448 u449 u450 u451 u452 u453 u454 u455 u456 u457 u458 u459 u460 u461 u462 u463 u464 u465 u466 u467 u468 u469 u470 u471 u472 u473 u474 u475 u476 u477 u478 u479 u480 u481 u482 u483 u484 u485 u486 u487 u488 u489 u490 u491 u492 u493 u494 u495 u496 u497 u498 u499 u500 u501 u502 u503 u504 u505 u506 u507 u508 u509 u510 u511 u512 u513 u514 u515 u516 u517 u518 u519 u520 u521 u522 u523 u524 u525 u526 u527 u528 u529 u530 u531 u532 u533 u534 u535 u536 u537 u538 u539 u540 u541 u542 u543 u544 u545 u546 u547 u548 u549 u550 u551 u552 u553 u554 u555 u556 u557 u558 u559 u560 u561 u562 u563 u564 u565 u566 u567 u568 u569 u570 u571 u572 u573 u574 u575 u576 u577 u578 u579 u580 u581 u582 u583 u584 u585 u586 u587 u588 u589 u590 u591 u592 u593 u594 u595 u596 : Value),
    Code.wp Ybgt.prog (tlN 13 (Ybgt.f3.body.getD .skip)) (bodyPost Ybgt.prog Ybgt.f3 (Post w)) ⟨#[.slice ar n capr, .slice ag m capg, .int .u8 (el : Int), .int .u8 (ns : Int), .slice am q capm, .int .i32 L, u6, u7, u8, u9, u10, u11, .bool false, .int .i64 (E : Int), .int .i64 (S : Int), .int .i64 (n : Int), .slice (some ⟨b16, 0, none⟩) n n, u17, u18, .slice (some ⟨b19, 0, none⟩) n c19, .slice (some ⟨b20, 0, none⟩) m m, .slice (some ⟨b21, 0, none⟩) m m, u22, u23, u24, u25, u26, .int .i64 L, .slice (some ⟨b28, 0, none⟩) E E, u29, u30, u31, u32, u33, u34, u35, u36, u37, u38, u39, u40, u41, u42, u43, u44, u45, u46, u47, u48, u49, u50, u51, u52, u53, u54, u55, u56, u57, u58, u59, u60, u61, u62, u63, u64, u65, u66, u67, u68, u69, u70, u71, u72, u73, u74, u75, u76, u77, u78, u79, u80, u81, u82, u83, u84, u85, u86, u87, u88, u89, u90, u91, u92, u93, u94, u95, u96, u97, u98, u99, u100, u101, u102, u103, u104, u105, u106, u107, u108, u109, u110, u111, u112, u113, u114, u115, u116, u117, u118, u119, u120, u121, u122, u123, u124, u125, u126, u127, u128, u129, u130, u131, u132, u133, u134, u135, u136, u137, u138, u139, u140, u141, u142, u143, u144, u145, u146, u147, u148, u149, u150, u151, u152, u153, u154, u155, u156, u157, u158, u159, u160, u161, u162, u163, u164, u165, u166, u167, u168, u169, u170, u171, u172, u173, u174, u175, u176, u177, u178, u179, u180, u181, u182, u183, u184, u185, u186, u187, u188, u189, u190, u191, u192, u193, u194, u195, u196, u197, u198, u199, u200, u201, u202, u203, u204, u205, u206, u207, u208, u209, u210, u211, u212, u213, u214, u215, u216, u217, u218, u219, u220, u221, u222, u223, u224, u225, u226, u227, u228, u229, u230, u231, u232, u233, u234, u235, u236, u237, u238, u239, u240, u241, u242, u243, u244, u245, u246, u247, u248, u249, u250, u251, u252, u253, u254, u255, u256, u257, u258, u259, u260, u261, u262, u263, u264, u265, u266, u267, u268, u269, u270, u271, u272, u273, u274, u275, u276, u277, u278, u279, u280, u281, u282, u283, u284, u285, u286, u287, u288, u289, u290, u291, u292, u293, u294, u295, u296, u297, u298, u299, u300, u301, u302, u303, u304, u305, u306, u307, u308, u309, u310, u311, u312, u313, u314, u315, u316, u317, u318, u319, u320, u321, u322, u323, u324, u325, u326, u327, u328, u329, u330, u331, u332, u333, u334, u335, u336, u337, u338, u339, u340, u341, u342, u343, u344, u345, u346, u347, u348, u349, u350, u351, u352, u353, u354, u355, u356, u357, u358, u359, u360, u361, u362, u363, u364, u365, u366, u367, u368, u369, u370, u371, u372, u373, u374, u375, u376, u377, u378, u379, u380, u381, u382, u383, u384, u385, u386, u387, u388, u389, u390, u391, u392, u393, u394, u395, u396, u397, u398, u399, u400, u401, u402, u403, u404, u405, u406, u407, u408, u409, u410, u411, u412, u413, u414, u415, u416, u417, u418, u419, u420, u421, u422, u423, u424, u425, u426, u427, u428, u429, u430, u431, u432, u433, u434, u435, u436, u437, u438, u439, u440, u441, u442, u443, u444, u445, u446, u447, u448, u449, u450, u451, u452, u453, u454, u455, u456, u457, u458, u459, u460, u461, u462, u463, u464, u465, u466, u467, u468, u469, u470, u471, u472, u473, u474, u475, u476, u477, u478, u479, u480, u481, u482, u483, u484, u485, u486, u487, u488, u489, u490, u491, u492, u493, u494, u495, u496, u497, u498, u499, u500, u501, u502, u503, u504, u505, u506, u507, u508, u509, u510, u511, u512, u513, u514, u515, u516, u517, u518, u519, u520, u521, u522, u523, u524, u525, u526, u527, u528, u529, u530, u531, u532, u533, u534, u535, u536, u537, u538, u539, u540, u541, u542, u543, u544, u545, u546, u547, u548, u549, u550, u551, u552, u553, u554, u555, u556, u557, u558, u559, u560, u561, u562, u563, u564, u565, u566, u567, u568, u569, u570, u571, u572, u573, u574, u575, u576, u577, u578, u579, u580, u581, u582, u583, u584, u585, u586, u587, u588, u589, u590, u591, u592, u593, u594, u595, u596], []⟩ W

set_option maxHeartbeats 4000000 in
set_option maxRecDepth 200000 in
theorem lawC (ar ag am : Option Addr) (n m q capr capg capm el ns E S : Nat) (L : Int) (w : World) (gbk goff : Nat) (GA GB GC rs ss st en : Nat → Nat) (hn : n ≤ 65536) (hm : m ≤ 4096) (hE : E ≤ 16) (hS0 : 0 < S) (hS : S ≤ 5)
    (hag : 0 < m → ag = some ⟨gbk, goff, none⟩ ∧ gbk < w.heap.size) (hga : ∀ j, j < m → w.cell? ⟨gbk, goff + j * 3, none⟩ = some (.int .u8 (GA j : Int))) (hgb : ∀ j, j < m → w.cell? ⟨gbk, goff + j * 3 + 1, none⟩ = some (.int .u8 (GB j : Int))) (hgc : ∀ j, j < m → w.cell? ⟨gbk, goff + j * 3 + 2, none⟩ = some (.int .u8 (GC j : Int)))
    (hgv : ∀ j, GA j ≤ 255 ∧ GB j ≤ 255 ∧ GC j ≤ 255) (hss : ∀ j, ss j = GC j % S) (hst : ∀ j, st j = min (GA j % (n + 1)) (GB j % (n + 1))) (hen : ∀ j, en j = max (GA j % (n + 1)) (GB j % (n + 1)))
    (hL1 : -2147483648 ≤ L) (hL2 : L ≤ 2147483647)
    (HNEXT : At13 ar ag am n m q capr capg capm el ns E S L rs ss st en w) : At10 ar ag am n m q capr capg capm el ns E S L rs w := by
  unfold At10
  intro b16 b19 c19 b20 b21 W hM u6 u7 u8 u9 u10 u11 u17 u18 u22 u23 u24 u25 u26 u27 u28 u29 u30 u31 u32 u33 u34 u35 u36 u37 u38 u39 u40 u41 u42 u43 u44 u45 u46 u47 u48 u49 u50 u51 u52 u53 u54 u55 u56 u57 u58 u59 u60 u61 u62 u63 u64 u65 u66 u67 u68 u69 u70 u71 u72 u73 u74 u75 u76 u77 u78 u79 u80 u81 u82 u83 u84 u85 u86 u87 u88 u89 u90 u91 u92 u93 u94 u95 u96 u97 u98 u99 u100 u101 u102 u103 u104 u105 u106 u107 u108 u109 u110 u111 u112 u113 u114 u115 u116 u117 u118 u119 u120 u121 u122 u123 u124 u125 u126 u127 u128 u129 u130 u131 u132 u133 u134 u135 u136 u137 u138 u139 u140 u141 u142 u143 u144 u145 u146 u147 u148 u149 u150 u151 u152 u153 u154 u155 u156 u157 u158 u159 u160 u161 u162 u163 u164 u165 u166 u167 u168 u169 u170 u171 u172 u173 u174 u175 u176 u177 u178 u179 u180 u181 u182 u183 u184 u185 u186 u187 u188 u189 u190 u191 u192 u193 u194 u195 u196 u197 u198 u199 u200 u201 u202 u203 u204 u205 u206 u207 u208 u209 u210 u211 u212 u213 u214 u215 u216 u217 u218 u219 u220 u221 u222 u223 u224 u225 u226 u227 u228 u229 u230 u231 u232 u233 u234 u235 u236 u237 u238 u239 u240 u241 u242 u243 u244 u245 u246 u247 u248 u249 u250 u251 u252 u253 u254 u255 u256 u257 u258 u259 u260 u261 u262 u263 u264 u265 u266 u267 u268 u269 u270 u271 u272 u273 u274 u275 u276 u277 u278 u279 u280 u281 u282 u283 u284 u285 u286 u287 u288 u289 u290 u291 u292 u293 u294 u295 u296 u297 u298 u299 u300 u301 u302 u303 u304 u305 u306 u307 u308 u309 u310 u311 u312 u313 u314 u315 u316 u317 u318 u319 u320 u321 u322 u323 u324 u325 u326 u327 u328 u329 u330 u331 u332 u333 u334 u335 u336 u337 u338 u339 u340 u341 u342 u343 u344 u345 u346 u347 u348 u349 u350 u351 u352 u353 u354 u355 u356 u357 u358 u359 u360 u361 u362 u363 u364 u365 u366 u367 u368 u369 u370 u371 u372 u373 u374 u375 u376 u377 u378 u379 u380 u381 u382 u383 u384 u385 u386 u387 u388 u389 u390 u391 u392 u393 u394 u395 u396 u397 u398 u399 u400 u401 u402 u403 u404 u405 u406 u407 u408 u409 u410 u411 u412 u413 u414 u415 u416 u417 u418 u419 u420 u421 u422 u423 u424 u425 u426 u427 u428 u429 u430 u431 u432 u433 u434 u435 u436 u437 u438 u439 u440 u441 u442 u443 u444 u445 u446 u447 u448 u449 u450 u451 u452 u453 u454 u455 u456 u457 u458 u459 u460 u461 u462 u463 u464 u465 u466 u467 u468 u469 u470 u471 u472 u473 u474 u475 u476 u477 u478 u479 u480 u481 u482 u483 u484 u485 u486 u487 u488 u489 u490 u491 u492 u493 u494 u495 u496 u497 u498 u499 u500 u501 u502 u503 u504 u505 u506 u507 u508 u509 u510 u511 u512 u513 u514 u515 u516 u517 u518 u519 u520 u521 u522 u523 u524 u525 u526 u527 u528 u529 u530 u531 u532 u533 u534 u535 u536 u537 u538 u539 u540 u541 u542 u543 u544 u545 u546 u547 u548 u549 u550 u551 u552 u553 u554 u555 u556 u557 u558 u559 u560 u561 u562 u563 u564 u565 u566 u567 u568 u569 u570 u571 u572 u573 u574 u575 u576 u577 u578 u579 u580 u581 u582 u583 u584 u585 u586 u587 u588 u589 u590 u591 u592 u593 u594 u595 u596
  have HX : Hid (At13 ar ag am n m q capr capg capm el ns E S L rs ss st en w) := HNEXT
  have HM : Hid (M10 w n m rs b16 b19 b20 b21 W) := hM
  have HE : Hid ((∀ j, ss j = GC j % S) ∧ (∀ j, st j = min (GA j % (n + 1)) (GB j % (n + 1))) ∧ (∀ j, en j = max (GA j % (n + 1)) (GB j % (n + 1)))) := ⟨hss, hst, hen⟩
  have HG : Hid ((0 < m → ag = some ⟨gbk, goff, none⟩ ∧ gbk < w.heap.size) ∧ (∀ j, j < m → w.cell? ⟨gbk, goff + j * 3, none⟩ = some (.int .u8 (GA j : Int))) ∧ (∀ j, j < m → w.cell? ⟨gbk, goff + j * 3 + 1, none⟩ = some (.int .u8 (GB j : Int))) ∧ (∀ j, j < m → w.cell? ⟨gbk, goff + j * 3 + 2, none⟩ = some (.int .u8 (GC j : Int)))) := ⟨hag, hga, hgb, hgc⟩
  have HV : Hid (∀ j, GA j ≤ 255 ∧ GB j ≤ 255 ∧ GC j ≤ 255) := hgv
  obtain ⟨o1, o2, o3, o4⟩ := hM.o
  clear HNEXT hag hga hgb hgc hgv hss hst hen hM
  conv => arg 2; whnf
  conv => arg 4; dsimp only
  refine seq_var (fun K hK => ?_)
  have HK10 : Hid _ := hK
  clear hK
  go_wp2
  go_loopw [108] (fun v108 wr => ∃ k : Nat, v108 = .int .i64 (k : Int) ∧ k ≤ m ∧ Rw wr b20 30 (m * 6) (fun j => if j / 6 < k then fGs ss st en j else zGs j) ∧ Rw wr b21 21 m (fun i => if i < k then vI32 ss i else .int .i32 0) ∧ Below b20 W wr) (fun v108 _ => m - (intOf v108).toNat)
  case atStart => exact ⟨0, rfl, Nat.zero_le _, HM.out.r20.congr (fun i _ => by simp [zGs]), HM.out.r21.congr (fun i _ => by simp), Below.refl _ _⟩
  case round =>
    rename World => W2
    obtain ⟨k, rfl, hkm, hr20, hr21, hbel⟩ := hrel
    by_cases hlt : k < m
    · have hlt' : (k : Int) < (m : Int) := by omega
      obtain ⟨rfl, hgl⟩ := HG.out.1 (by omega)
      have hbw : Below w.heap.size w W2 := HM.out.bel.trans (hbel.mono (by omega))
      have c0 := (hbw.cell (p := ⟨gbk, goff + k * 3, none⟩) hgl).trans (HG.out.2.1 k hlt)
      have c1 := (hbw.cell (p := ⟨gbk, goff + k * 3 + 1, none⟩) hgl).trans (HG.out.2.2.1 k hlt)
      have c2 := (hbw.cell (p := ⟨gbk, goff + k * 3 + 2, none⟩) hgl).trans (HG.out.2.2.2 k hlt)
      obtain ⟨v1, v2, v3⟩ := HV.out k
      obtain ⟨xa, hxa⟩ : ∃ x, x = GA k := ⟨_, rfl⟩
      obtain ⟨xb, hxb⟩ : ∃ x, x = GB k := ⟨_, rfl⟩
      obtain ⟨xc, hxc⟩ : ∃ x, x = GC k := ⟨_, rfl⟩
      rw [← hxa] at c0 v1
      rw [← hxb] at c1 v2
      rw [← hxc] at c2 v3
      obtain ⟨a, ha⟩ : ∃ a, a = xa % (n + 1) := ⟨_, rfl⟩
      obtain ⟨b, hb⟩ : ∃ b, b = xb % (n + 1) := ⟨_, rfl⟩
      obtain ⟨s, hs⟩ : ∃ s, s = xc % S := ⟨_, rfl⟩
      have ha1 : (xa : Int) % ((n : Int) + 1) = (a : Int) := by rw [ha]; push_cast; rfl
      have hb1 : (xb : Int) % ((n : Int) + 1) = (b : Int) := by rw [hb]; push_cast; rfl
      have hs1 : (xc : Int) % (S : Int) = (s : Int) := by rw [hs]; push_cast; rfl
      have ha2 : a ≤ n := by rw [ha]; exact Nat.le_of_lt_succ (Nat.mod_lt _ (by omega))
      have hb2 : b ≤ n := by rw [hb]; exact Nat.le_of_lt_succ (Nat.mod_lt _ (by omega))
      have hs2 : s < S := by rw [hs]; exact Nat.mod_lt _ hS0
      have hw : IntKind.i32.wrap (s : Int) = s := by simp [IntKind.wrap, IntKind.bits, IntKind.signed]; omega
      have HEQ : Hid (ss k = s ∧ st k = min a b ∧ en k = max a b) := ⟨by rw [HE.out.1, hs, hxc], by rw [HE.out.2.1, ha, hb, hxa, hxb], by rw [HE.out.2.2, ha, hb, hxa, hxb]⟩
      have hr20' := hr20.alloc (.cells #[.int .u8 (xa : Int), .int .u8 (xb : Int), .int .u8 (xc : Int)] 28)
      have hr21' := hr21.alloc (.cells #[.int .u8 (xa : Int), .int .u8 (xb : Int), .int .u8 (xc : Int)] 28)
      have g0 := hr20'.cell (i := k * 6) (by omega)
      have f0 := hr20'.frozen (k * 6)
      have g1 := hr20'.cell (i := k * 6 + 1) (by omega)
      have f1 := hr20'.frozen (k * 6 + 1)
      have g2 := hr20'.cell (i := k * 6 + 2) (by omega)
      have f2 := hr20'.frozen (k * 6 + 2)
      have g3 := hr20'.cell (i := k * 6 + 3) (by omega)
      have f3 := hr20'.frozen (k * 6 + 3)
      have g4 := hr20'.cell (i := k * 6 + 4) (by omega)
      have f4 := hr20'.frozen (k * 6 + 4)
      have g5 := hr20'.cell (i := k * 6 + 5) (by omega)
      have f5 := hr20'.frozen (k * 6 + 5)
      have s0 := hr21'.cell hlt
      have sf := hr21'.frozen k
      have nb : b21 ≠ b20 := by omega
      clear hxa hxb hxc ha hb hs
      by_cases hab : a > b
      · have hab' : (a : Int) > (b : Int) := by omega
        have HA : Hid (Rw ((((((((W2.alloc (.cells #[.int .u8 (xa : Int), .int .u8 (xb : Int), .int .u8 (xc : Int)] 28)).setCell ⟨b20, k * 6, none⟩ (.int .i32 (s : Int))).setCell ⟨b20, k * 6 + 1, none⟩ (.int .i64 0)).setCell ⟨b20, k * 6 + 2, none⟩ (.int .i64 0)).setCell ⟨b20, k * 6 + 3, none⟩ (.int .i64 (b : Int))).setCell ⟨b20, k * 6 + 4, none⟩ (.int .i64 (a : Int))).setCell ⟨b20, k * 6 + 5, none⟩ (.int .i64 0)).setCell ⟨b21, k, none⟩ (.int .i32 (s : Int))) b20 30 (m * 6) (fun j => if j / 6 < k + 1 then fGs ss st en j else zGs j)) := (get_round hr20' HEQ.out.1 (HEQ.out.2.1.trans (by omega)) (HEQ.out.2.2.trans (by omega))).setOther (Ne.symm nb) _
        have HB : Hid (Rw ((((((((W2.alloc (.cells #[.int .u8 (xa : Int), .int .u8 (xb : Int), .int .u8 (xc : Int)] 28)).setCell ⟨b20, k * 6, none⟩ (.int .i32 (s : Int))).setCell ⟨b20, k * 6 + 1, none⟩ (.int .i64 0)).setCell ⟨b20, k * 6 + 2, none⟩ (.int .i64 0)).setCell ⟨b20, k * 6 + 3, none⟩ (.int .i64 (b : Int))).setCell ⟨b20, k * 6 + 4, none⟩ (.int .i64 (a : Int))).setCell ⟨b20, k * 6 + 5, none⟩ (.int .i64 0)).setCell ⟨b21, k, none⟩ (.int .i32 (s : Int))) b21 21 m (fun i => if i < k + 1 then vI32 ss i else .int .i32 0)) := row_round ((((((hr21'.setOther nb _).setOther nb _).setOther nb _).setOther nb _).setOther nb _).setOther nb _) HEQ.out.1
        have HC : Hid (Below b20 W ((((((((W2.alloc (.cells #[.int .u8 (xa : Int), .int .u8 (xb : Int), .int .u8 (xc : Int)] 28)).setCell ⟨b20, k * 6, none⟩ (.int .i32 (s : Int))).setCell ⟨b20, k * 6 + 1, none⟩ (.int .i64 0)).setCell ⟨b20, k * 6 + 2, none⟩ (.int .i64 0)).setCell ⟨b20, k * 6 + 3, none⟩ (.int .i64 (b : Int))).setCell ⟨b20, k * 6 + 4, none⟩ (.int .i64 (a : Int))).setCell ⟨b20, k * 6 + 5, none⟩ (.int .i64 0)).setCell ⟨b21, k, none⟩ (.int .i32 (s : Int)))) := (((((((hbel.alloc (by have := hr20.lt; omega) _).setCell (Nat.le_refl _) _).setCell (Nat.le_refl _) _).setCell (Nat.le_refl _) _).setCell (Nat.le_refl _) _).setCell (Nat.le_refl _) _).setCell (Nat.le_refl _) _).setCell (by show b20 ≤ b21; omega) _
        clear hr20 hr21 hr20' hr21' hbel hbw
        go_wp2
        go_roundw
        case rel => exact ⟨k + 1, by go_num, by omega, HA.out, HB.out, HC.out⟩
        case measure => simp [intOf]; omega
      · have hab' : ¬ (a : Int) > (b : Int) := by omega
        have HA : Hid (Rw ((((((((W2.alloc (.cells #[.int .u8 (xa : Int), .int .u8 (xb : Int), .int .u8 (xc : Int)] 28)).setCell ⟨b20, k * 6, none⟩ (.int .i32 (s : Int))).setCell ⟨b20, k * 6 + 1, none⟩ (.int .i64 0)).setCell ⟨b20, k * 6 + 2, none⟩ (.int .i64 0)).setCell ⟨b20, k * 6 + 3, none⟩ (.int .i64 (a : Int))).setCell ⟨b20, k * 6 + 4, none⟩ (.int .i64 (b : Int))).setCell ⟨b20, k * 6 + 5, none⟩ (.int .i64 0)).setCell ⟨b21, k, none⟩ (.int .i32 (s : Int))) b20 30 (m * 6) (fun j => if j / 6 < k + 1 then fGs ss st en j else zGs j)) := (get_round hr20' HEQ.out.1 (HEQ.out.2.1.trans (by omega)) (HEQ.out.2.2.trans (by omega))).setOther (Ne.symm nb) _
        have HB : Hid (Rw ((((((((W2.alloc (.cells #[.int .u8 (xa : Int), .int .u8 (xb : Int), .int .u8 (xc : Int)] 28)).setCell ⟨b20, k * 6, none⟩ (.int .i32 (s : Int))).setCell ⟨b20, k * 6 + 1, none⟩ (.int .i64 0)).setCell ⟨b20, k * 6 + 2, none⟩ (.int .i64 0)).setCell ⟨b20, k * 6 + 3, none⟩ (.int .i64 (a : Int))).setCell ⟨b20, k * 6 + 4, none⟩ (.int .i64 (b : Int))).setCell ⟨b20, k * 6 + 5, none⟩ (.int .i64 0)).setCell ⟨b21, k, none⟩ (.int .i32 (s : Int))) b21 21 m (fun i => if i < k + 1 then vI32 ss i else .int .i32 0)) := row_round ((((((hr21'.setOther nb _).setOther nb _).setOther nb _).setOther nb _).setOther nb _).setOther nb _) HEQ.out.1
        have HC : Hid (Below b20 W ((((((((W2.alloc (.cells #[.int .u8 (xa : Int), .int .u8 (xb : Int), .int .u8 (xc : Int)] 28)).setCell ⟨b20, k * 6, none⟩ (.int .i32 (s : Int))).setCell ⟨b20, k * 6 + 1, none⟩ (.int .i64 0)).setCell ⟨b20, k * 6 + 2, none⟩ (.int .i64 0)).setCell ⟨b20, k * 6 + 3, none⟩ (.int .i64 (a : Int))).setCell ⟨b20, k * 6 + 4, none⟩ (.int .i64 (b : Int))).setCell ⟨b20, k * 6 + 5, none⟩ (.int .i64 0)).setCell ⟨b21, k, none⟩ (.int .i32 (s : Int)))) := (((((((hbel.alloc (by have := hr20.lt; omega) _).setCell (Nat.le_refl _) _).setCell (Nat.le_refl _) _).setCell (Nat.le_refl _) _).setCell (Nat.le_refl _) _).setCell (Nat.le_refl _) _).setCell (Nat.le_refl _) _).setCell (by show b20 ≤ b21; omega) _
        clear hr20 hr21 hr20' hr21' hbel hbw
        go_wp2
        go_roundw
        case rel => exact ⟨k + 1, by go_num, by omega, HA.out, HB.out, HC.out⟩
        case measure => simp [intOf]; omega
    · have hlt' : ¬ (k : Int) < (m : Int) := by omega
      obtain rfl : k = m := by omega
      have hr20' : Rw W2 b20 30 (k * 6) (fGs ss st en) := hr20.congr (fun i hi => by rw [if_pos (by omega)])
      have hr21' : Rw W2 b21 21 k (vI32 ss) := hr21.congr (fun i hi => by rw [if_pos hi])
      have hM := HM.out
      have HF : Hid (M13 w n k E rs ss st en b16 b19 b20 b21 W2.heap.size (W2.alloc (.cells (madeCells #[.int .i64 0] E) 3))) := by
        have hb3 : Below w.heap.size w W2 := hM.bel.trans (hbel.mono (by omega))
        exact ⟨hb3.alloc hb3.size _, (hM.r16.below hbel (by omega)).alloc _, (hM.r19.below hbel (by omega)).alloc _, hr20'.alloc _, hr21'.alloc _, Rw.ofIs (World.rowIs_made W2 _ E 3), ⟨o1, o2, o3, o4, hr21.lt⟩⟩
      clear hr20 hr21 hr20' hr21' hbel hM
      have hmk := make31 E (by omega) W2
      go_wp2
      refine HK10.out _ _ ?_
      clear HK10
      refine seq_var (fun K hK => ?_)
      have HK11 : Hid _ := hK
      clear hK
      go_wp2
      refine HK11.out _ _ ?_
      clear HK11 K
      refine seq_var (fun K hK => ?_)
      have HK12 : Hid _ := hK
      clear hK
      go_wp2
      refine HK12.out _ _ ?_
      clear HK12 K
      have hx := HX.out
      unfold At13 at hx
      apply hx _ _ _ _ _ _ _ HF.out
end Go.Proofs.Yboneofkt
