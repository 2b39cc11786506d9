/-
  The law: its head.
-/
import Derived.Test.YboneofktNew3
namespace Go.Proofs.Yboneofkt
open Go.RowKit

def tl : Code → Code
  | .seq _ b => b
  | c => c
/-- the code behind the first k statements. -/
def tlN : Nat → Code → Code
  | 0, c => c
  | k + 1, c => tlN k (tl c)

/-- what the law answers. -/
def Post (w : World) (e : Ending) (w' : World) : Prop := e = .returned (.bool true) ∧ Below w.heap.size w w'

def At6 (ar ag am : Option Addr) (n m q capr capg capm el ns E S : Nat) (L : Int) (w : World) : Prop := ∀ (b16 : Nat) (W : World), w.heap.size ≤ b16 → Rw W b16 21 n (fun _ => .int .i32 0) → Below w.heap.size w W → ∀ (u6 u7 u8 u9 u10 u11 u17 u18 u19 u20 u21 u22 u23 u24 u25 u26 u27 u28 u29 u30 u31 u32 u33 u34 u35 u36 u37 u38 u39 u40 u41 u42 u43 u44 u45 u46 u47 u48 u49 u50 u51 u52 u53 u54 u55 u56 u57 u58 u59 u60 u61 u62 u63 u64 u65 u66 u67 u68 u69 u70 u71 u72 u73 u74 u75 u76 u77 u78 u79 u80 u81 u82 u83 u84 u85 u86 u87 u88 u89 u90 u91 u92 u93 u94 u95 u96 u97 u98 u99 u100 u101 u102 u103 u104 u105 u106 u107 u108 u109 u110 u111 u112 u113 u114 u115 u116 u117 u118 u119 u120 u121 u122 u123 u124 u125 u126 u127 u128 u129 u130 u131 u132 u133 u134 u135 u136 u137 u138 u139 u140 u141 u142 u143 u144 u145 u146 u147 u148 u149 u150 u151 u152 u153 u154 u155 u156 u157 u158 u159 u160 u161 u162 u163 u164 u165 u166 u167 u168 u169 u170 u171 u172 u173 u174 u175 u176 u177 u178 u179 u180 u181 u182 u183 u184 u185 u186 u187 u188 u189 u190 u191 u192 u193 u194 u195 u196 u197 u198 u199 u200 u201 u202 u203 u204 u205 u206 u207 u208 u209 u210 u211 u212 u213 u214 u215 u216 u217 u218 u219 u220 u221 u222 u223 u224 u225 u226 u227 u228 u229 u230 u231 u232 u233 u234 u235 u236 u237 u238 u239 u240 u241 u242 u243 u244 u245 u246 u247 u248 u249 u250 u251 u252 u253 u254 u255 u256 u257 u258 u259 u260 u261 u262 u263 u264 u265 u266 u267 u268 u269 u270 u271 u272 u273 u274 u275 u276 u277 u278 u279 u280 u281 u282 u283 u284 u285 u286 u287 u288 u289 u290 u291 u292 u293 u294 u295 u296 u297 u298 u299 u300 u301 u302 u303 u304 u305 u306 u307 u308 u309 u310 u311 u312 u313 u314 u315 u316 u317 u318 u319 u320 u321 u322 u323 u324 u325 u326 u327 u328 u329 u330 u331 u332 u333 u334 u335 u336 u337 u338 u339 u340 u341 u342 u343 u344 u345 u346 u347 u348 u349 u350 u351 u352 u353 u354 u355 u356 u357 u358 u359 u360 u361 u362 u363 u364 u365 u366 u367 u368 u369 u370 u371 u372 u373 u374 u375 u376 u377 u378 u379 u380 u381 u382 u383 u384 u385 u386 u387 u388 u389 u390 u391 u392 u393 u394 u395 u396 u397 u398 u399 u400 u401 u402 u403 u404 u405 u406 u407 u408 u409 u410 u411 u412 u413 u414 u415 u416 u417 u418 u419 u420 u421 u422 u423 u424 u425 u426 u427 u428 u429 u430 u431 u432 u433 u434 u435 u436 u437 u438 u439 u440 u441 u442 u443 u444 u445 u446 u447 u448 u449 u450 u451 u452 u453 u454 u455 u456 u457 u458 u459 u460 u461 u462 u463 u464 u465 u466 u467 u468 u469 u470 u471 u472 u473 u474 u475 u476 u477 u478 u479 u480 u481 u482 u483 u484 u485 u486 u487 u488 u489 u490 u491 u492 u493 u494 u495 u496 u497 u498 u499 u500 u501 u502 u503 u504 u505 u506 u507 u508 u509 u510 u511 u512 u513 u514 u515 u516 u517 u518 u519 u520 u521 u522 u523 u524 u525 u526 u527 u528 u529 u530 u531 u532 u533 u534 u535 u536 u537 u538 u539 u540 u541 u542 u543 u544 u545 u546 u547 u548 u549 u550 u551 u552 u553 u554 u555 u556 u557 u558 u559 u560 u561 u562 u563 u564 u565 u566 u567 u568 u569 u570 u571 u572 u573 u574 u575 u576 u577 u578 u579 u580 u581 u582 u583 u584 u585 u586 u587 u588 u589 u590 u591 u592 u593 u594 u595 u596 : Value),
    Code.wp Ybgt.prog (tlN 6 (Ybgt.f3.body.getD .skip)) (bodyPost Ybgt.prog Ybgt.f3 (Post w)) ⟨#[.slice ar n capr, .slice ag m capg, .int .u8 (el : Int), .int .u8 (ns : Int), .slice am q capm, .int .i32 L, u6, u7, u8, u9, u10, u11, .bool false, .int .i64 (E : Int), .int .i64 (S : Int), .int .i64 (n : Int), .slice (some ⟨b16, 0, none⟩) n n, u17, u18, u19, u20, u21, u22, u23, u24, u25, u26, u27, u28, u29, u30, u31, u32, u33, u34, u35, u36, u37, u38, u39, u40, u41, u42, u43, u44, u45, u46, u47, u48, u49, u50, u51, u52, u53, u54, u55, u56, u57, u58, u59, u60, u61, u62, u63, u64, u65, u66, u67, u68, u69, u70, u71, u72, u73, u74, u75, u76, u77, u78, u79, u80, u81, u82, u83, u84, u85, u86, u87, u88, u89, u90, u91, u92, u93, u94, u95, u96, u97, u98, u99, u100, u101, u102, u103, u104, u105, u106, u107, u108, u109, u110, u111, u112, u113, u114, u115, u116, u117, u118, u119, u120, u121, u122, u123, u124, u125, u126, u127, u128, u129, u130, u131, u132, u133, u134, u135, u136, u137, u138, u139, u140, u141, u142, u143, u144, u145, u146, u147, u148, u149, u150, u151, u152, u153, u154, u155, u156, u157, u158, u159, u160, u161, u162, u163, u164, u165, u166, u167, u168, u169, u170, u171, u172, u173, u174, u175, u176, u177, u178, u179, u180, u181, u182, u183, u184, u185, u186, u187, u188, u189, u190, u191, u192, u193, u194, u195, u196, u197, u198, u199, u200, u201, u202, u203, u204, u205, u206, u207, u208, u209, u210, u211, u212, u213, u214, u215, u216, u217, u218, u219, u220, u221, u222, u223, u224, u225, u226, u227, u228, u229, u230, u231, u232, u233, u234, u235, u236, u237, u238, u239, u240, u241, u242, u243, u244, u245, u246, u247, u248, u249, u250, u251, u252, u253, u254, u255, u256, u257, u258, u259, u260, u261, u262, u263, u264, u265, u266, u267, u268, u269, u270, u271, u272, u273, u274, u275, u276, u277, u278, u279, u280, u281, u282, u283, u284, u285, u286, u287, u288, u289, u290, u291, u292, u293, u294, u295, u296, u297, u298, u299, u300, u301, u302, u303, u304, u305, u306, u307, u308, u309, u310, u311, u312, u313, u314, u315, u316, u317, u318, u319, u320, u321, u322, u323, u324, u325, u326, u327, u328, u329, u330, u331, u332, u333, u334, u335, u336, u337, u338, u339, u340, u341, u342, u343, u344, u345, u346, u347, u348, u349, u350, u351, u352, u353, u354, u355, u356, u357, u358, u359, u360, u361, u362, u363, u364, u365, u366, u367, u368, u369, u370, u371, u372, u373, u374, u375, u376, u377, u378, u379, u380, u381, u382, u383, u384, u385, u386, u387, u388, u389, u390, u391, u392, u393, u394, u395, u396, u397, u398, u399, u400, u401, u402, u403, u404, u405, u406, u407, u408, u409, u410, u411, u412, u413, u414, u415, u416, u417, u418, u419, u420, u421, u422, u423, u424, u425, u426, u427, u428, u429, u430, u431, u432, u433, u434, u435, u436, u437, u438, u439, u440, u441, u442, u443, u444, u445, u446, u447, u448, u449, u450, u451, u452, u453, u454, u455, u456, u457, u458, u459, u460, u461, u462, u463, u464, u465, u466, u467, u468, u469, u470, u471, u472, u473, u474, u475, u476, u477, u478, u479, u480, u481, u482, u483, u484, u485, u486, u487, u488, u489, u490, u491, u492, u493, u494, u495, u496, u497, u498, u499, u500, u501, u502, u503, u504, u505, u506, u507, u508, u509, u510, u511, u512, u513, u514, u515, u516, u517, u518, u519, u520, u521, u522, u523, u524, u525, u526, u527, u528, u529, u530, u531, u532, u533, u534, u535, u536, u537, u538, u539, u540, u541, u542, u543, u544, u545, u546, u547, u548, u549, u550, u551, u552, u553, u554, u555, u556, u557, u558, u559, u560, u561, u562, u563, u564, u565, u566, u567, u568, u569, u570, u571, u572, u573, u574, u575, u576, u577, u578, u579, u580, u581, u582, u583, u584, u585, u586, u587, u588, u589, u590, u591, u592, u593, u594, u595, u596], []⟩ W

set_option maxHeartbeats 4000000 in
set_option maxRecDepth 200000 in
theorem law_big (ar ag am : Option Addr) (n m q capr capg capm el ns : Nat) (L : Int) (w : World) (h : 65536 < n ∨ 4096 < m) : Calls Ybgt.prog 3 #[.slice ar n capr, .slice ag m capg, .int .u8 (el : Int), .int .u8 (ns : Int), .slice am q capm, .int .i32 L] w (Post w) := by
  by_cases h1 : 65536 < n
  · have h1' : (65536 : Int) < (n : Int) := by omega
    go_enter Ybgt.func3, Ybgt.ntmps3
    go_wp2
    go_ret
    exact ⟨rfl, Below.refl _ _⟩
  · have h1' : ¬ (65536 : Int) < (n : Int) := by omega
    have h2' : (4096 : Int) < (m : Int) := by omega
    go_enter Ybgt.func3, Ybgt.ntmps3
    go_wp2
    go_ret
    exact ⟨rfl, Below.refl _ _⟩

set_option maxHeartbeats 4000000 in
set_option maxRecDepth 200000 in
theorem lawA (ar ag am : Option Addr) (n m q capr capg capm el ns E S : Nat) (L : Int) (w : World) (hn : n ≤ 65536) (hm : m ≤ 4096) (hel : el ≤ 255) (hns : ns ≤ 255) (hE : E = el % 16 + 1) (hS : S = ns % 5 + 1) (HNEXT : At6 ar ag am n m q capr capg capm el ns E S L w) : Calls Ybgt.prog 3 #[.slice ar n capr, .slice ag m capg, .int .u8 (el : Int), .int .u8 (ns : Int), .slice am q capm, .int .i32 L] w (Post w) := by
  have hn' : ¬ (65536 : Int) < (n : Int) := by omega
  have hm' : ¬ (4096 : Int) < (m : Int) := by omega
  have HX : Hid (At6 ar ag am n m q capr capg capm el ns E S L w) := HNEXT
  have e1 : (el : Int) % 16 + 1 = (E : Int) := by omega
  have e2 : (ns : Int) % 5 + 1 = (S : Int) := by omega
  have hmk := make24 n (by omega) w
  clear HNEXT hE hS
  go_enter Ybgt.func3, Ybgt.ntmps3
  refine seq_var (fun K hK => ?_)
  have HK0 : Hid _ := hK
  clear hK
  go_wp2
  refine HK0.out _ _ ?_
  clear HK0 K
  refine seq_var (fun K hK => ?_)
  have HK1 : Hid _ := hK
  clear hK
  go_wp2
  refine HK1.out _ _ ?_
  clear HK1 K
  refine seq_var (fun K hK => ?_)
  have HK2 : Hid _ := hK
  clear hK
  go_wp2
  refine HK2.out _ _ ?_
  clear HK2 K
  refine seq_var (fun K hK => ?_)
  have HK3 : Hid _ := hK
  clear hK
  go_wp2
  refine HK3.out _ _ ?_
  clear HK3 K
  refine seq_var (fun K hK => ?_)
  have HK4 : Hid _ := hK
  clear hK
  go_wp2
  refine HK4.out _ _ ?_
  clear HK4 K
  refine seq_var (fun K hK => ?_)
  have HK5 : Hid _ := hK
  clear hK
  go_wp2
  refine HK5.out _ _ ?_
  clear HK5 K
  have hx := HX.out
  unfold At6 at hx
  apply hx _ _ (Nat.le_refl _) (Rw.ofIs (World.rowIs_made w _ n 21)) (below_alloc w _)
end Go.Proofs.Yboneofkt
