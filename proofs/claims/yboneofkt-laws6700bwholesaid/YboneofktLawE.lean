/-
  The law: the order of the gets.
-/
import Derived.Test.YboneofktLawD
import Derived.Test.YboneofktOrd
namespace Go.Proofs.Yboneofkt
open Go.RowKit

/-- cell c of session s. -/
def sc (cn fi : Nat → Nat) (rp : Nat → Option Addr) (s : Nat) : Nat → Value
  | 2 => .slice (rp s) (cn s) (cn s)
  | 3 => .int .i32 (fi s : Int)
  | _ => .slice none 0 0
def fSe (cn fi : Nat → Nat) (rp : Nat → Option Addr) (j : Nat) : Value := sc cn fi rp (j / 5) (j % 5)

theorem ses_round {W : World} {b32 S s : Nat} {cn fi : Nat → Nat} {rp : Nat → Option Addr} {a : Addr} (h : Rw W b32 36 (S * 5) (fun j => if j / 5 < s then fSe cn fi rp j else zSe j)) (o : Obj) :
    Rw (((W.setCell ⟨b32, s * 5 + 3, none⟩ (.int .i32 (fi s : Int))).alloc o).setCell ⟨b32, s * 5 + 2, none⟩ (.slice (some a) (cn s) (cn s))) b32 36 (S * 5) (fun j => if j / 5 < s + 1 then fSe cn fi (fun t => if t = s then some a else rp t) j else zSe j) := by
  refine (((h.set _ _).alloc o).set _ _).congr (fun i _ => ?_)
  by_cases h1 : i / 5 < s
  · rw [if_neg (by omega), if_neg (by omega), if_pos h1, if_pos (by omega)]
    unfold fSe
    have hne : ¬ i / 5 = s := by omega
    have hc : i % 5 = 0 ∨ i % 5 = 1 ∨ i % 5 = 2 ∨ i % 5 = 3 ∨ i % 5 = 4 := by omega
    rcases hc with hc | hc | hc | hc | hc <;> rw [hc] <;> simp only [sc, if_neg hne]
  · by_cases h2 : i / 5 = s
    · have hs : i / 5 < s + 1 := by omega
      rw [if_pos hs, if_neg h1]
      unfold fSe zSe
      rw [h2]
      have hc : i % 5 = 0 ∨ i % 5 = 1 ∨ i % 5 = 2 ∨ i % 5 = 3 ∨ i % 5 = 4 := by omega
      rcases hc with hc | hc | hc | hc | hc
      · rw [if_neg (by omega), if_neg (by omega), hc]; simp [sc]
      · rw [if_neg (by omega), if_neg (by omega), hc]; simp [sc]
      · rw [if_pos (by omega), hc]; simp [sc]
      · rw [if_neg (by omega), if_pos (by omega), hc]; simp [sc]
      · rw [if_neg (by omega), if_neg (by omega), hc]; simp [sc]
    · rw [if_neg (by omega), if_neg (by omega), if_neg h1, if_neg (by omega)]

theorem rowN_round {W : World} {b m k v : Nat} {f : Nat → Nat} {z : Value} (h : Rw W b 3 m (fun i => if i < k then vI64 f i else z)) (e1 : f k = v) : Rw (W.setCell ⟨b, k, none⟩ (.int .i64 (v : Int))) b 3 m (fun i => if i < k + 1 then vI64 f i else z) := (h.set k (.int .i64 (v : Int))).congr (fun i _ => by
  by_cases e : i = k
  · subst e
    simp [vI64, e1]
  · by_cases e2 : i < k
    · simp [e, e2, Nat.lt_succ_of_lt e2]
    · have : ¬ i < k + 1 := by omega
      simp [e, e2, this])

/-- the memory in the midst of the sessions. -/
structure L4 (W : World) (m S : Nat) (ss : Nat → Nat) (b32 b33 b34 b35 s : Nat) (rp : Nat → Option Addr) (ks : List Nat) (kv : Value) (wr : World) : Prop where
  bel : Below b32 W wr
  r32 : Rw wr b32 36 (S * 5) (fun j => if j / 5 < s then fSe (cnt ss m) (fst ss m) rp j else zSe j)
  r33 : Rw wr b33 3 S (fun i => if i < s then vI64 (fst ss m) i else .int .i64 0)
  r34 : Rw wr b34 3 S (fun i => if i < s then vI64 (cnt ss m) i else .int .i64 0)
  own : wr.ownsRow b35 21 1 kv ks.length (i32s ks)
  nn : kv ≠ .slice none 0 0

theorem own_some {w : World} {base T n : Nat} {v : Value} {xs : List Value} (h : w.ownsRow base T 1 v n xs) (hv : v ≠ .slice none 0 0) : ∃ b cap, v = .slice (some ⟨b, 0, none⟩) n cap ∧ n ≤ cap ∧ base ≤ b := by
  rcases h.2 with ⟨h1, _⟩ | ⟨g, cap, cur, h1, h2, h3, h4, _⟩
  · exact absurd h1 hv
  · exact ⟨g, cap, h1, h4, h2⟩

/-- the memory behind the sessions. -/
structure M20 (w : World) (n m E S : Nat) (rs ss st en : Nat → Nat) (mks : Nat → Int) (rp : Nat → Option Addr) (b16 b19 b20 b28 b31 b32 b33 b34 ob c35 : Nat) (W : World) : Prop where
  bel : Below w.heap.size w W
  r16 : Rw W b16 21 n (vI32 rs)
  r19 : Rw W b19 21 n (vI32 rs)
  r20 : Rw W b20 30 (m * 6) (fGs ss st en)
  r28 : Rw W b28 3 E (vZ mks)
  r31 : Rw W b31 3 E (vZ mks)
  r32 : Rw W b32 36 (S * 5) (fSe (cnt ss m) (fst ss m) rp)
  r33 : Rw W b33 3 S (vI64 (fst ss m))
  r34 : Rw W b34 3 S (vI64 (cnt ss m))
  rob : Rw W ob 21 m (vI32 fun i => (RO ss m S)[i]!)
  cap : m ≤ c35
  o : w.heap.size ≤ b16 ∧ b16 < b19 ∧ b19 < b20 ∧ b20 < b28 ∧ b28 < b31 ∧ b31 < b32 ∧ b32 < b33 ∧ b33 < b34 ∧ b34 < ob

def At20 (ar ag am : Option Addr) (n m q capr capg capm el ns E S : Nat) (L : Int) (rs ss st en : Nat → Nat) (mks : Nat → Int) (w : World) : Prop := ∀ (b16 b19 c19 b20 b21 b28 b31 c31 b32 b33 b34 ob c35 : Nat) (rp : Nat → Option Addr) (W : World), M20 w n m E S rs ss st en mks rp b16 b19 b20 b28 b31 b32 b33 b34 ob c35 W → ∀ (u6 u7 u8 u9 u10 u11 u17 u18 u22 u23 u24 u25 u26 u29 u30 u36 u37 u38 u39 u40 u41 u42 u43 u44 u45 u46 u47 u48 u49 u50 u51 u52 u53 u54 u55 u56 u57 u58 u59 u60 u61 u62 u63 u64 u65 u66 u67 u68 u69 u70 u71 u72 u73 u74 u75 u76 u77 u78 u79 u80 u81 u82 u83 u84 u85 u86 u87 u88 u89 u90 u91 u92 u93 u94 u95 u96 u97 u98 u99 u100 u101 u102 u103 u104 u105 u106 u107 u108 u109 u110 u111 u112 u113 u114 u115 u116 u117 u118 u119 u120 u121 u122 u123 u124 u125 u126 u127 u128 u129 u130 u131 u132 u133 u134 u135 u136 u137 u138 u139 u140 u141 u142 u143 u144 u145 u146 u147 u148 u149 u150 u151 u152 u153 u154 u155 u156 u157 u158 u159 u160 u161 u162 u163 u164 u165 u166 u167 u168 u169 u170 u171 u172 u173 u174 u175 u176 u177 u178 u179 u180 u181 u182 u183 u184 u185 u186 u187 u188 u189 u190 u191 u192 u193 u194 u195 u196 u197 u198 u199 u200 u201 u202 u203 u204 u205 u206 u207 u208 u209 u210 u211 u212 u213 u214 u215 u216 u217 u218 u219 u220 u221 u222 u223 u224 u225 u226 u227 u228 u229 u230 u231 u232 u233 u234 u235 u236 u237 u238 u239 u240 u241 u242 u243 u244 u245 u246 u247 u248 u249 u250 u251 u252 u253 u254 u255 u256 u257 u258 u259 u260 u261 u262 u263 u264 u265 u266 u267 u268 u269 u270 u271 u272 u273 u274 u275 u276 u277 u278 u279 u280 u281 u282 u283 u284 u285 u286 u287 u288 u289 u290 u291 u292 u293 u294 u295 u296 u297 u298 u299 u300 u301 u302 u303 u304 u305 u306 u307 u308 u309 u310 u311 u312 u313 u314 u315 u316 u317 u318 u319 u320 u321 u322 u323 u324 u325 u326 u327 u328 u329 u330 u331 u332 u333 u334 u335 u336 u337 u338 u339 u340 u341 u342 u343 u344 u345 u346 u347 u348 u349 u350 u351 u352 u353 u354 u355 u356 u357 u358 u359 u360 u361 u362 u363 u364 u365 u366 u367 u368 u369 u370 u371 u372 u373 u374 u375 u376 u377 u378 u379 u380 u381 u382 u383 u384 u385 u386 u387 u388 u389 u390 u391 u392 u393 u394 u395 u396 u397 u398 u399 u400 u401 u402 u403 u404 u405 u406 u407 u408 u409 u410 u411 u412 u413 u414 u415 u416 u417 u418 u419 u420 u421 u422 u423 u424 u425 u426 u427 u428 u429 u430 u431 u432 u433 u434 u435 u436 u437 u438 u439 u440 u441 u442 u443 u444 u445 u446 u447 u448 u449 u450 u451 u452 u453 u454 u455 u456 u457 u458 u459 u460 u461 u462 u463 u464 u465 u466 u467 u468 u469 u470 u471 u472 u473 u474 u475 u476 u477 u478 u479 u480 u481 u482 u483 u484 u485 u486 u487 u488 u489 u490 u491 u492 u493 u494 u495 u496 u497 u498 u499 u500 u501 u502 u503 u504 u505 u506 u507 u508 u509 u510 u511 u512 u513 u514 u515 u516 u517 u518 u519 u520 u521 u522 u523 u524 u525 u526 u527 u528 u529 u530 u531 u532 u533 u534 u535 u536 u537 u538 u539 u540 u541 u542 u543 u544 u545 u546 u547 u548 u549 u550 u551 u552 u553 u554 u555 u556 u557 u558 u559 u560 u561 u562 u563 u564 u565 u566 u567 u568 u569 u570 u571 u572 u573 u574 u575 u576 u577 u578 u579 u580 u581 u582 u583 u584 u585 u586 u587 u588 u589 u590 u591 u592 u593 u594 u595 u596 : Value),
    Code.wp Ybgt.prog (tlN 20 (Ybgt.f3.body.getD .skip)) (bodyPost Ybgt.prog Ybgt.f3 (Post w)) ⟨#[.slice ar n capr, .slice ag m capg, .int .u8 (el : Int), .int .u8 (ns : Int), .slice am q capm, .int .i32 L, u6, u7, u8, u9, u10, u11, .bool false, .int .i64 (E : Int), .int .i64 (S : Int), .int .i64 (n : Int), .slice (some ⟨b16, 0, none⟩) n n, u17, u18, .slice (some ⟨b19, 0, none⟩) n c19, .slice (some ⟨b20, 0, none⟩) m m, .slice (some ⟨b21, 0, none⟩) m m, u22, u23, u24, u25, u26, .int .i64 L, .slice (some ⟨b28, 0, none⟩) E E, u29, u30, .slice (some ⟨b31, 0, none⟩) E c31, .slice (some ⟨b32, 0, none⟩) S S, .slice (some ⟨b33, 0, none⟩) S S, .slice (some ⟨b34, 0, none⟩) S S, .slice (some ⟨ob, 0, none⟩) m c35, u36, u37, u38, u39, u40, u41, u42, u43, u44, u45, u46, u47, u48, u49, u50, u51, u52, u53, u54, u55, u56, u57, u58, u59, u60, u61, u62, u63, u64, u65, u66, u67, u68, u69, u70, u71, u72, u73, u74, u75, u76, u77, u78, u79, u80, u81, u82, u83, u84, u85, u86, u87, u88, u89, u90, u91, u92, u93, u94, u95, u96, u97, u98, u99, u100, u101, u102, u103, u104, u105, u106, u107, u108, u109, u110, u111, u112, u113, u114, u115, u116, u117, u118, u119, u120, u121, u122, u123, u124, u125, u126, u127, u128, u129, u130, u131, u132, u133, u134, u135, u136, u137, u138, u139, u140, u141, u142, u143, u144, u145, u146, u147, u148, u149, u150, u151, u152, u153, u154, u155, u156, u157, u158, u159, u160, u161, u162, u163, u164, u165, u166, u167, u168, u169, u170, u171, u172, u173, u174, u175, u176, u177, u178, u179, u180, u181, u182, u183, u184, u185, u186, u187, u188, u189, u190, u191, u192, u193, u194, u195, u196, u197, u198, u199, u200, u201, u202, u203, u204, u205, u206, u207, u208, u209, u210, u211, u212, u213, u214, u215, u216, u217, u218, u219, u220, u221, u222, u223, u224, u225, u226, u227, u228, u229, u230, u231, u232, u233, u234, u235, u236, u237, u238, u239, u240, u241, u242, u243, u244, u245, u246, u247, u248, u249, u250, u251, u252, u253, u254, u255, u256, u257, u258, u259, u260, u261, u262, u263, u264, u265, u266, u267, u268, u269, u270, u271, u272, u273, u274, u275, u276, u277, u278, u279, u280, u281, u282, u283, u284, u285, u286, u287, u288, u289, u290, u291, u292, u293, u294, u295, u296, u297, u298, u299, u300, u301, u302, u303, u304, u305, u306, u307, u308, u309, u310, u311, u312, u313, u314, u315, u316, u317, u318, u319, u320, u321, u322, u323, u324, u325, u326, u327, u328, u329, u330, u331, u332, u333, u334, u335, u336, u337, u338, u339, u340, u341, u342, u343, u344, u345, u346, u347, u348, u349, u350, u351, u352, u353, u354, u355, u356, u357, u358, u359, u360, u361, u362, u363, u364, u365, u366, u367, u368, u369, u370, u371, u372, u373, u374, u375, u376, u377, u378, u379, u380, u381, u382, u383, u384, u385, u386, u387, u388, u389, u390, u391, u392, u393, u394, u395, u396, u397, u398, u399, u400, u401, u402, u403, u404, u405, u406, u407, u408, u409, u410, u411, u412, u413, u414, u415, u416, u417, u418, u419, u420, u421, u422, u423, u424, u425, u426, u427, u428, u429, u430, u431, u432, u433, u434, u435, u436, u437, u438, u439, u440, u441, u442, u443, u444, u445, u446, u447, u448, u449, u450, u451, u452, u453, u454, u455, u456, u457, u458, u459, u460, u461, u462, u463, u464, u465, u466, u467, u468, u469, u470, u471, u472, u473, u474, u475, u476, u477, u478, u479, u480, u481, u482, u483, u484, u485, u486, u487, u488, u489, u490, u491, u492, u493, u494, u495, u496, u497, u498, u499, u500, u501, u502, u503, u504, u505, u506, u507, u508, u509, u510, u511, u512, u513, u514, u515, u516, u517, u518, u519, u520, u521, u522, u523, u524, u525, u526, u527, u528, u529, u530, u531, u532, u533, u534, u535, u536, u537, u538, u539, u540, u541, u542, u543, u544, u545, u546, u547, u548, u549, u550, u551, u552, u553, u554, u555, u556, u557, u558, u559, u560, u561, u562, u563, u564, u565, u566, u567, u568, u569, u570, u571, u572, u573, u574, u575, u576, u577, u578, u579, u580, u581, u582, u583, u584, u585, u586, u587, u588, u589, u590, u591, u592, u593, u594, u595, u596], []⟩ W

set_option maxHeartbeats 4000000 in
set_option maxRecDepth 200000 in
theorem lawE (ar ag am : Option Addr) (n m q capr capg capm el ns E S : Nat) (L : Int) (w : World) (rs ss st en : Nat → Nat) (mks : Nat → Int) (hm : m ≤ 4096) (hS : S ≤ 5) (hss : ∀ g, ss g < S)
    (HNEXT : At20 ar ag am n m q capr capg capm el ns E S L rs ss st en mks w) : At19 ar ag am n m q capr capg capm el ns E S L rs ss st en mks w := by
  unfold At19
  intro b16 b19 c19 b20 b21 b28 b31 c31 b32 b33 b34 b35 W hM u6 u7 u8 u9 u10 u11 u17 u18 u22 u23 u24 u25 u26 u29 u30 u36 u37 u38 u39 u40 u41 u42 u43 u44 u45 u46 u47 u48 u49 u50 u51 u52 u53 u54 u55 u56 u57 u58 u59 u60 u61 u62 u63 u64 u65 u66 u67 u68 u69 u70 u71 u72 u73 u74 u75 u76 u77 u78 u79 u80 u81 u82 u83 u84 u85 u86 u87 u88 u89 u90 u91 u92 u93 u94 u95 u96 u97 u98 u99 u100 u101 u102 u103 u104 u105 u106 u107 u108 u109 u110 u111 u112 u113 u114 u115 u116 u117 u118 u119 u120 u121 u122 u123 u124 u125 u126 u127 u128 u129 u130 u131 u132 u133 u134 u135 u136 u137 u138 u139 u140 u141 u142 u143 u144 u145 u146 u147 u148 u149 u150 u151 u152 u153 u154 u155 u156 u157 u158 u159 u160 u161 u162 u163 u164 u165 u166 u167 u168 u169 u170 u171 u172 u173 u174 u175 u176 u177 u178 u179 u180 u181 u182 u183 u184 u185 u186 u187 u188 u189 u190 u191 u192 u193 u194 u195 u196 u197 u198 u199 u200 u201 u202 u203 u204 u205 u206 u207 u208 u209 u210 u211 u212 u213 u214 u215 u216 u217 u218 u219 u220 u221 u222 u223 u224 u225 u226 u227 u228 u229 u230 u231 u232 u233 u234 u235 u236 u237 u238 u239 u240 u241 u242 u243 u244 u245 u246 u247 u248 u249 u250 u251 u252 u253 u254 u255 u256 u257 u258 u259 u260 u261 u262 u263 u264 u265 u266 u267 u268 u269 u270 u271 u272 u273 u274 u275 u276 u277 u278 u279 u280 u281 u282 u283 u284 u285 u286 u287 u288 u289 u290 u291 u292 u293 u294 u295 u296 u297 u298 u299 u300 u301 u302 u303 u304 u305 u306 u307 u308 u309 u310 u311 u312 u313 u314 u315 u316 u317 u318 u319 u320 u321 u322 u323 u324 u325 u326 u327 u328 u329 u330 u331 u332 u333 u334 u335 u336 u337 u338 u339 u340 u341 u342 u343 u344 u345 u346 u347 u348 u349 u350 u351 u352 u353 u354 u355 u356 u357 u358 u359 u360 u361 u362 u363 u364 u365 u366 u367 u368 u369 u370 u371 u372 u373 u374 u375 u376 u377 u378 u379 u380 u381 u382 u383 u384 u385 u386 u387 u388 u389 u390 u391 u392 u393 u394 u395 u396 u397 u398 u399 u400 u401 u402 u403 u404 u405 u406 u407 u408 u409 u410 u411 u412 u413 u414 u415 u416 u417 u418 u419 u420 u421 u422 u423 u424 u425 u426 u427 u428 u429 u430 u431 u432 u433 u434 u435 u436 u437 u438 u439 u440 u441 u442 u443 u444 u445 u446 u447 u448 u449 u450 u451 u452 u453 u454 u455 u456 u457 u458 u459 u460 u461 u462 u463 u464 u465 u466 u467 u468 u469 u470 u471 u472 u473 u474 u475 u476 u477 u478 u479 u480 u481 u482 u483 u484 u485 u486 u487 u488 u489 u490 u491 u492 u493 u494 u495 u496 u497 u498 u499 u500 u501 u502 u503 u504 u505 u506 u507 u508 u509 u510 u511 u512 u513 u514 u515 u516 u517 u518 u519 u520 u521 u522 u523 u524 u525 u526 u527 u528 u529 u530 u531 u532 u533 u534 u535 u536 u537 u538 u539 u540 u541 u542 u543 u544 u545 u546 u547 u548 u549 u550 u551 u552 u553 u554 u555 u556 u557 u558 u559 u560 u561 u562 u563 u564 u565 u566 u567 u568 u569 u570 u571 u572 u573 u574 u575 u576 u577 u578 u579 u580 u581 u582 u583 u584 u585 u586 u587 u588 u589 u590 u591 u592 u593 u594 u595 u596
  have HX : Hid (At20 ar ag am n m q capr capg capm el ns E S L rs ss st en mks w) := HNEXT
  have HM : Hid (M19 w n m E S rs ss st en mks b16 b19 b20 b21 b28 b31 b32 b33 b34 b35 W) := hM
  have HSS : Hid (∀ g, ss g < S) := hss
  obtain ⟨o1, o2, o3, o4, o5, o6, o7, o8, o9, o10, o11⟩ := hM.o
  obtain ⟨i0, hi0, hz0, hz1, hz2⟩ := info_parts Ybgt.info21
  clear HNEXT hss hM
  conv => arg 2; whnf
  conv => arg 4; dsimp only
  refine seq_var (fun K hK => ?_)
  have HK19 : Hid _ := hK
  clear hK
  go_wp2
  go_loopw [36, 35] (fun v36 v35 wr => ∃ (s : Nat) (rp : Nat → Option Addr), v36 = .int .i64 (s : Int) ∧ s ≤ S ∧ L4 W m S ss b32 b33 b34 b35 s rp (RO ss m s) v35 wr) (fun v36 _ _ => S - (intOf v36).toNat)
  case atStart =>
    have hM := HM.out
    exact ⟨0, fun _ => none, rfl, Nat.zero_le _, ⟨Below.refl _ _, hM.r32.congr (fun i _ => by simp), hM.r33.congr (fun i _ => by simp), hM.r34.congr (fun i _ => by simp), hM.r35, by simp⟩⟩
  case round =>
    rename World => W2
    obtain ⟨s, rp, rfl, hsS, hL⟩ := hrel
    obtain ⟨ob, oc, rfl, hoc, hob⟩ := own_some hL.own hL.nn
    obtain ⟨f, hf⟩ : ∃ f, f = fst ss m s := ⟨_, rfl⟩
    have hf2 : (RO ss m s).length = f := hf.symm
    rw [hf2]
    rw [hf2] at hoc
    have hfm : f ≤ m := by
      rw [hf]
      have h1 := fst_le ss m s S hsS
      rw [fst_all ss S m (fun g _ => HSS.out g)] at h1
      exact h1
    by_cases hlt : s < S
    · have hlt' : (s : Int) < (S : Int) := by omega
      have HL : Hid (L4 W m S ss b32 b33 b34 b35 s rp (RO ss m s) (.slice (some ⟨ob, 0, none⟩) f oc) W2) := by
        rw [hf2] at hL
        exact hL
      have HF : Hid (f = fst ss m s) := hf
      clear hL hf hf2
      go_wp2
      go_loopw [195, 35] (fun v195 v35 wr => ∃ g : Nat, v195 = .int .i64 (g : Int) ∧ g ≤ m ∧ L4 W m S ss b32 b33 b34 b35 s rp (RO ss m s ++ ros ss s g) v35 wr) (fun v195 _ _ => m - (intOf v195).toNat)
      case atStart =>
        have h := HL.out
        refine ⟨0, rfl, Nat.zero_le _, ⟨h.bel, h.r32, h.r33, h.r34, ?_, h.nn⟩⟩
        have := h.own
        rw [show RO ss m s ++ ros ss s 0 = RO ss m s by simp [ros]]
        exact this
      case round =>
        rename World => W3
        obtain ⟨g, rfl, hgm, hL⟩ := hrel
        clear HL
        by_cases hg : g < m
        · have hg' : (g : Int) < (m : Int) := by omega
          have c21 := (hL.bel.cell (p := ⟨b21, g, none⟩) (by show b21 < b32; omega)).trans (HM.out.r21.cell hg)
          obtain ⟨x, hx⟩ : ∃ x, x = ss g := ⟨_, rfl⟩
          have hxS := HSS.out g
          unfold vI32 at c21
          rw [← hx] at c21 hxS
          by_cases hxs : x = s
          · have hxs' : (x : Int) = (s : Int) := by omega
            have hros : RO ss m s ++ ros ss s (g + 1) = (RO ss m s ++ ros ss s g) ++ [g] := by
              rw [ros_succ, if_pos (by rw [← hx]; exact hxs), List.append_assoc]
            have hlen := ros_len ss s g
            obtain ⟨kl, hkl⟩ : ∃ kl, kl = (RO ss m s ++ ros ss s g).length := ⟨_, rfl⟩
            have hkl2 : kl ≤ 8192 := by
              rw [hkl, List.length_append]
              have : (RO ss m s).length = f := HF.out.symm
              omega
            have ho := hL.own
            rw [← hkl] at ho
            have hnw : IntKind.i32.wrap (g : Int) = g := by simp [IntKind.wrap, IntKind.bits, IntKind.signed]; omega
            have HOW : Hid ((W3.alloc (.cells #[.int .i32 (g : Int)] 21)).ownsRow b35 21 1 u35 kl (i32s (RO ss m s ++ ros ss s g))) := ho.alloc _
            have hWl : W.heap.size ≤ W3.heap.size := hL.bel.size
            have HSZ : Hid (b35 ≤ (W3.alloc (.cells #[.int .i32 (g : Int)] 21)).heap.size) := by rw [World.size_alloc]; show b35 ≤ W3.heap.size + 1; omega
            have HLC : Hid _ := lit_cell W3 (.int .i32 (g : Int)) 21
            have HL3 : Hid (L4 W m S ss b32 b33 b34 b35 s rp (RO ss m s ++ ros ss s g) u35 W3) := hL
            have HRO : Hid (RO ss m s ++ ros ss s (g + 1) = (RO ss m s ++ ros ss s g) ++ [g]) := hros
            have HKL : Hid (kl = (RO ss m s ++ ros ss s g).length) := hkl
            clear hL ho hros hkl hx hlen
            go_wp2_with (at_builtin; refine wpList_append_own _ rfl (.tmp 205) (.tmp 208) 24 rfl b35 21 i0 (.int .i32 0) 1 4 Ybgt.underlying24 hi0 hz0 hz1 hz2 rfl (by omega) u35 kl (i32s (RO ss m s ++ ros ss s g)) rfl HOW.out _ 1 _ [.int .i32 (g : Int)] rfl rfl HLC.out (by simp [Value.oneCell']) (by simp only [maxLen]; omega) (by omega) HSZ.out ?_; intro kv' W6 hk6 hg6 hnil)
            have HL6 : Hid (L4 W m S ss b32 b33 b34 b35 s rp (RO ss m s ++ ros ss s (g + 1)) kv' W6) := by
              have h := HL3.out
              have hb1 : Below W3.heap.size W3 (W3.alloc (.cells #[.int .i32 (g : Int)] 21)) := below_alloc W3 _
              have hrow : ∀ k, u35.ownBlock = some k → b35 ≤ k := fun k hk => (HOW.out.lt k hk).1
              have hb6 : Below b35 W3 W6 := ((hb1.mono (by omega))).grown hg6 HSZ.out hrow
              refine ⟨h.bel.trans (hb6.mono (by omega)), h.r32.below hb6 (by omega), h.r33.below hb6 (by omega), h.r34.below hb6 (by omega), ?_, fun e => absurd (hnil.1 e).2 (by omega)⟩
              rw [HRO.out, List.length_append, ← HKL.out]
              simpa [i32s] using hk6
            clear hk6 hg6 hnil HL3 HOW HSZ HLC
            go_roundw
            case rel => exact ⟨g + 1, by go_num, by omega, HL6.out⟩
            case measure => simp [intOf]; omega
          · have hxs' : ¬ (x : Int) = (s : Int) := by omega
            have HL6 : Hid (L4 W m S ss b32 b33 b34 b35 s rp (RO ss m s ++ ros ss s (g + 1)) u35 W3) := by
              rw [ros_succ, if_neg (by rw [← hx]; exact hxs)]
              exact hL
            clear hL hx
            go_wp2
            go_roundw
            case rel => exact ⟨g + 1, by go_num, by omega, HL6.out⟩
            case measure => simp [intOf]; omega
        · have hg' : ¬ (g : Int) < (m : Int) := by omega
          obtain rfl : g = m := by omega
          obtain ⟨ob2, oc2, hkv, hoc2, hob2⟩ := own_some hL.own hL.nn
          obtain ⟨f2, hf2⟩ : ∃ f2, f2 = (RO ss g s ++ ros ss s g).length := ⟨_, rfl⟩
          have hf3 : f2 = fst ss g (s + 1) := by rw [hf2]; rfl
          obtain ⟨c, hc⟩ : ∃ c, c = cnt ss g s := ⟨_, rfl⟩
          have hfc : (f2 : Int) - (f : Int) = (c : Int) := by
            have := fst_succ ss g s
            rw [← hf3, ← hc, ← HF.out] at this
            omega
          have hcl : c ≤ g := by rw [hc]; exact ros_len _ _ _
          have hf4 : f2 ≤ g := by
            have h1 := fst_le ss g (s + 1) S (by omega)
            rw [fst_all ss S g (fun g _ => HSS.out g), ← hf3] at h1
            exact h1
          rw [← hf2] at hkv
          subst hkv
          have c33 := hL.r33.cell hlt
          have f33 := hL.r33.frozen s
          have a34 := hL.r34.setOther (a := ⟨b33, s, none⟩) (by show b34 ≠ b33; omega) (.int .i64 (f : Int))
          have c34 := a34.cell hlt
          have f34 := a34.frozen s
          have a32 := (hL.r32.setOther (a := ⟨b33, s, none⟩) (by show b32 ≠ b33; omega) (.int .i64 (f : Int))).setOther (a := ⟨b34, s, none⟩) (by show b32 ≠ b34; omega) (.int .i64 (c : Int))
          have c323 := a32.cell (i := s * 5 + 3) (by omega)
          have f323 := a32.frozen (s * 5 + 3)
          obtain ⟨WA, hWA⟩ : ∃ WA, WA = (W3.setCell ⟨b33, s, none⟩ (.int .i64 (f : Int))).setCell ⟨b34, s, none⟩ (.int .i64 (c : Int)) := ⟨_, rfl⟩
          have a34' := rowN_round (v := c) a34 hc.symm
          rw [← hWA] at a34' a32 c323 f323
          have b34' := a34'.setOther (a := ⟨b32, s * 5 + 3, none⟩) (by show b34 ≠ b32; omega) (.int .i32 (f : Int))
          have c34' := b34'.cell hlt
          simp only [Nat.lt_succ_self, if_true] at c34'
          unfold vI64 at c34'
          rw [← hc] at c34'
          have b32' := ((a32.set (s * 5 + 3) (.int .i32 (f : Int))).alloc (.cells (madeCells #[.int .i64 0] c) 2))
          have c322 := b32'.cell (i := s * 5 + 2) (by omega)
          have f322 := b32'.frozen (s * 5 + 2)
          have hmk := make34 c (by omega)
          have hw32 : IntKind.i32.wrap (f : Int) = f := by simp [IntKind.wrap, IntKind.bits, IntKind.signed]; omega
          have HL8 : Hid (L4 W g S ss b32 b33 b34 b35 (s + 1) (fun t => if t = s then some ⟨WA.heap.size, 0, none⟩ else rp t) (RO ss g (s + 1)) (.slice (some ⟨ob2, 0, none⟩) f2 oc2) (((WA.setCell ⟨b32, s * 5 + 3, none⟩ (.int .i32 (f : Int))).alloc (.cells (madeCells #[.int .i64 0] c) 2)).setCell ⟨b32, s * 5 + 2, none⟩ (.slice (some ⟨WA.heap.size, 0, none⟩) c c))) := by
            have hl := hL.r33.lt
            have hbA : Below b32 W WA := by rw [hWA]; exact (hL.bel.setCell (by show b32 ≤ b33; omega) _).setCell (by show b32 ≤ b34; omega) _
            have hsA : WA.heap.size = W3.heap.size := by rw [hWA]; simp [World.setCell]
            have hlW := hL.r32.lt
            have hr32 := ses_round (a := ⟨WA.heap.size, 0, none⟩) a32 (.cells (madeCells #[.int .i64 0] c) 2)
            rw [← HF.out, ← hc] at hr32
            have hr33 := rowN_round (v := f) hL.r33 HF.out.symm
            have h33A : Rw WA b33 3 S (fun i => if i < s + 1 then vI64 (fst ss g) i else .int .i64 0) := by
              rw [hWA]; exact hr33.setOther (by show b33 ≠ b34; omega) _
            have hbs : Below b32 W (WA.setCell ⟨b32, s * 5 + 3, none⟩ (.int .i32 (f : Int))) := hbA.setCell (Nat.le_refl _) _
            refine ⟨(hbs.alloc (by show b32 ≤ (WA.setCell _ _).heap.size; simp [World.setCell]; omega) _).setCell (Nat.le_refl _) _, hr32, ((h33A.setOther (by show b33 ≠ b32; omega) _).alloc _).setOther (by show b33 ≠ b32; omega) _, (b34'.alloc _).setOther (by show b34 ≠ b32; omega) _, ?_, by simp⟩
            have ho := hL.own
            have hoA : WA.ownsRow b35 21 1 (.slice (some ⟨ob2, 0, none⟩) f2 oc2) (RO ss g s ++ ros ss s g).length (i32s (RO ss g s ++ ros ss s g)) := by
              rw [hWA]
              exact own_setB (own_setB ho (own_ge ho (by omega)) _ _) (own_ge ho (by omega)) _ _
            exact own_setB ((own_setB hoA (own_ge hoA (by omega)) _ _).alloc _) (own_ge hoA (by omega)) _ _
          have HWA : Hid (WA = (W3.setCell ⟨b33, s, none⟩ (.int .i64 (f : Int))).setCell ⟨b34, s, none⟩ (.int .i64 (c : Int))) := hWA
          have hWAr : (W3.setCell ⟨b33, s, none⟩ (.int .i64 (f : Int))).setCell ⟨b34, s, none⟩ (.int .i64 (c : Int)) = WA := hWA.symm
          clear hL a34 a32 a34' b34' b32' hf2 hf3 hc hWA
          go_wp2
          go_roundw
          case rel => exact ⟨s + 1, _, by go_num, by omega, HL8.out⟩
          case measure => simp [intOf]; omega
    · have hlt' : ¬ (s : Int) < (S : Int) := by omega
      obtain rfl : s = S := by omega
      obtain rfl : f = m := by rw [hf]; exact fst_all ss s m (fun g _ => HSS.out g)
      have HF : Hid (M20 w n f E s rs ss st en mks rp b16 b19 b20 b28 b31 b32 b33 b34 ob oc W2) := by
        have hM := HM.out
        have hb := hL.bel
        have ho := hL.own
        rw [hf2] at ho
        refine ⟨hM.bel.trans (hb.mono (by omega)), hM.r16.below hb (by omega), hM.r19.below hb (by omega), hM.r20.below hb (by omega), hM.r28.below hb (by omega), hM.r31.below hb (by omega), hL.r32.congr (fun i hi => by rw [if_pos (by omega)]), hL.r33.congr (fun i hi => by rw [if_pos hi]), hL.r34.congr (fun i hi => by rw [if_pos hi]), ?_, hoc, ⟨o1, o2, o3, by omega, o6, o7, o8, o9, by omega⟩⟩
        rcases ho.2 with ⟨h1, _⟩ | ⟨g, cap, cur, h1, h2, h3, h4, _, h6, h7⟩
        · cases h1
        · cases h1
          refine ⟨cur, h3, by omega, fun i hi => ?_⟩
          have := congrArg (fun l => l[i]?) h7
          simp only [List.getElem?_take, i32s, List.getElem?_map] at this
          rw [if_pos (by omega)] at this
          have hil : i < (RO ss f s).length := by omega
          rw [List.getElem?_eq_getElem hil] at this
          have e : ((RO ss f s)[i]! : Nat) = (RO ss f s)[i] := getElem!_pos _ i hil
          show cur[i]? = some (Value.int .i32 (((RO ss f s)[i]! : Nat) : Int))
          rw [e]
          simpa using this
      clear hL hf hf2
      go_wp2
      refine HK19.out _ _ ?_
      clear HK19
      have hx := HX.out
      unfold At20 at hx
      apply hx _ _ _ _ _ _ _ _ _ _ _ _ _ _ _ HF.out
end Go.Proofs.Yboneofkt
