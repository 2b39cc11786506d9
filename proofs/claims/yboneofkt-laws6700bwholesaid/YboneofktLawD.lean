/-
  The law: the marks.
-/
import Derived.Test.YboneofktLawC
namespace Go.Proofs.Yboneofkt
open Go.RowKit

def zSe (j : Nat) : Value := (#[.slice none 0 0, .slice none 0 0, .slice none 0 0, .int .i32 0, .slice none 0 0] : Array Value)[j % 5]?.getD default
def vZ (f : Nat → Int) (i : Nat) : Value := .int .i64 (f i)

/-- the memory behind the marks. -/
structure M19 (w : World) (n m E S : Nat) (rs ss st en : Nat → Nat) (mks : Nat → Int) (b16 b19 b20 b21 b28 b31 b32 b33 b34 b35 : Nat) (W : World) : Prop where
  bel : Below w.heap.size w W
  r16 : Rw W b16 21 n (vI32 rs)
  r19 : Rw W b19 21 n (vI32 rs)
  r20 : Rw W b20 30 (m * 6) (fGs ss st en)
  r21 : Rw W b21 21 m (vI32 ss)
  r28 : Rw W b28 3 E (vZ mks)
  r31 : Rw W b31 3 E (vZ mks)
  r32 : Rw W b32 36 (S * 5) zSe
  r33 : Rw W b33 3 S (fun _ => .int .i64 0)
  r34 : Rw W b34 3 S (fun _ => .int .i64 0)
  r35 : W.ownsRow b35 21 1 (.slice (some ⟨b35, 0, none⟩) 0 m) 0 []
  o : w.heap.size ≤ b16 ∧ b16 < b19 ∧ b19 < b20 ∧ b20 < b21 ∧ b21 < b28 ∧ b28 < b31 ∧ b31 < b32 ∧ b32 < b33 ∧ b33 < b34 ∧ b34 < b35 ∧ b35 < W.heap.size

def At19 (ar ag am : Option Addr) (n m q capr capg capm el ns E S : Nat) (L : Int) (rs ss st en : Nat → Nat) (mks : Nat → Int) (w : World) : Prop := ∀ (b16 b19 c19 b20 b21 b28 b31 c31 b32 b33 b34 b35 : Nat) (W : World), M19 w n m E S rs ss st en mks b16 b19 b20 b21 b28 b31 b32 b33 b34 b35 W → ∀ (u6 u7 u8 u9 u10 u11 u17 u18 u22 u23 u24 u25 u26 u29 u30 u36 u37 u38 u39 u40 u41 u42 u43 u44 u45 u46 u47 u48 u49 u50 u51 u52 u53 u54 u55 u56 u57 u58 u59 u60 u61 u62 u63 u64 u65 u66 u67 u68 u69 u70 u71 u72 u73 u74 u75 u76 u77 u78 u79 u80 u81 u82 u83 u84 u85 u86 u87 u88 u89 u90 u91 u92 u93 u94 u95 u96 u97 u98 u99 u100 u101 u102 u103 u104 u105 u106 u107 u108 u109 u110 u111 u112 u113 u114 u115 u116 u117 u118 u119 u120 u121 u122 u123 u124 u125 u126 u127 u128 u129 u130 u131 u132 u133 u134 u135 u136 u137 u138 u139 u140 u141 u142 u143 u144 u145 u146 u147 u148 u149 u150 u151 u152 u153 u154 u155 u156 u157 u158 u159 u160 u161 u162 u163 u164 u165 u166 u167 u168 u169 u170 u171 u172 u173 u174 u175 u176 u177 u178 u179 u180 u181 u182 u183 u184 u185 u186 u187 u188 u189 u190 u191 u192 u193 u194 u195 u196 u197 u198 u199 u200 u201 u202 u203 u204 u205 u206 u207 u208 u209 u210 u211 u212 u213 u214 u215 u216 u217 u218 u219 u220 u221 u222 u223 u224 u225 u226 u227 u228 u229 u230 u231 u232 u233 u234 u235 u236 u237 u238 u239 u240 u241 u242 u243 u244 u245 u246 u247 u248 u249 u250 u251 u252 u253 u254 u255 u256 u257 u258 u259 u260 u261 u262 u263 u264 u265 u266 u267 u268 u269 u270 u271 u272 u273 u274 u275 u276 u277 u278 u279 u280 u281 u282 u283 u284 u285 u286 u287 u288 u289 u290 u291 u292 u293 u294 u295 u296 u297 u298 u299 u300 u301 u302 u303 u304 u305 u306 u307 u308 u309 u310 u311 u312 u313 u314 u315 u316 u317 u318 u319 u320 u321 u322 u323 u324 u325 u326 u327 u328 u329 u330 u331 u332 u333 u334 u335 u336 u337 u338 u339 u340 u341 u342 u343 u344 u345 u346 u347 u348 u349 u350 u351 u352 u353 u354 u355 u356 u357 u358 u359 u360 u361 u362 u363 u364 u365 u366 u367 u368 u369 u370 u371 u372 u373 u374 u375 u376 u377 u378 u379 u380 u381 u382 u383 u384 u385 u386 u387 u388 u389 u390 u391 u392 u393 u394 u395 u396 u397 u398 u399 u400 u401 u402 u403 u404 u405 u406 u407 u408 u409 u410 u411 u412 u413 u414 u415 u416 u417 u418 u419 u420 u421 u422 u423 u424 u425 u426 u427 u428 u429 u430 u431 u432 u433 u434 u435 u436 u437 u438 u439 u440 u441 u442 u443 u444 u445 u446 u447 u448 u449 u450 u451 u452 u453 u454 u455 u456 u457 u458 u459 u460 u461 u462 u463 u464 u465 u466 u467 u468 u469 u470 u471 u472 u473 u474 u475 u476 u477 u478 u479 u480 u481 u482 u483 u484 u485 u486 u487 u488 u489 u490 u491 u492 u493 u494 u495 u496 u497 u498 u499 u500 u501 u502 u503 u504 u505 u506 u507 u508 u509 u510 u511 u512 u513 u514 u515 u516 u517 u518 u519 u520 u521 u522 u523 u524 u525 u526 u527 u528 u529 u530 u531 u532 u533 u534 u535 u536 u537 u538 u539 u540 u541 u542 u543 u544 u545 u546 u547 u548 u549 u550 u551 u552 u553 u554 u555 u556 u557 u558 u559 u560 u561 u562 u563 u564 u565 u566 u567 u568 u569 u570 u571 u572 u573 u574 u575 u576 u577 u578 u579 u580 u581 u582 u583 u584 u585 u586 u587 u588 u589 u590 u591 u592 u593 u594 u595 u596 : Value),
    Code.wp Ybgt.prog (tlN 19 (Ybgt.f3.body.getD .skip)) (bodyPost Ybgt.prog Ybgt.f3 (Post w)) ⟨#[.slice ar n capr, .slice ag m capg, .int .u8 (el : Int), .int .u8 (ns : Int), .slice am q capm, .int .i32 L, u6, u7, u8, u9, u10, u11, .bool false, .int .i64 (E : Int), .int .i64 (S : Int), .int .i64 (n : Int), .slice (some ⟨b16, 0, none⟩) n n, u17, u18, .slice (some ⟨b19, 0, none⟩) n c19, .slice (some ⟨b20, 0, none⟩) m m, .slice (some ⟨b21, 0, none⟩) m m, u22, u23, u24, u25, u26, .int .i64 L, .slice (some ⟨b28, 0, none⟩) E E, u29, u30, .slice (some ⟨b31, 0, none⟩) E c31, .slice (some ⟨b32, 0, none⟩) S S, .slice (some ⟨b33, 0, none⟩) S S, .slice (some ⟨b34, 0, none⟩) S S, .slice (some ⟨b35, 0, none⟩) 0 m, u36, u37, u38, u39, u40, u41, u42, u43, u44, u45, u46, u47, u48, u49, u50, u51, u52, u53, u54, u55, u56, u57, u58, u59, u60, u61, u62, u63, u64, u65, u66, u67, u68, u69, u70, u71, u72, u73, u74, u75, u76, u77, u78, u79, u80, u81, u82, u83, u84, u85, u86, u87, u88, u89, u90, u91, u92, u93, u94, u95, u96, u97, u98, u99, u100, u101, u102, u103, u104, u105, u106, u107, u108, u109, u110, u111, u112, u113, u114, u115, u116, u117, u118, u119, u120, u121, u122, u123, u124, u125, u126, u127, u128, u129, u130, u131, u132, u133, u134, u135, u136, u137, u138, u139, u140, u141, u142, u143, u144, u145, u146, u147, u148, u149, u150, u151, u152, u153, u154, u155, u156, u157, u158, u159, u160, u161, u162, u163, u164, u165, u166, u167, u168, u169, u170, u171, u172, u173, u174, u175, u176, u177, u178, u179, u180, u181, u182, u183, u184, u185, u186, u187, u188, u189, u190, u191, u192, u193, u194, u195, u196, u197, u198, u199, u200, u201, u202, u203, u204, u205, u206, u207, u208, u209, u210, u211, u212, u213, u214, u215, u216, u217, u218, u219, u220, u221, u222, u223, u224, u225, u226, u227, u228, u229, u230, u231, u232, u233, u234, u235, u236, u237, u238, u239, u240, u241, u242, u243, u244, u245, u246, u247, u248, u249, u250, u251, u252, u253, u254, u255, u256, u257, u258, u259, u260, u261, u262, u263, u264, u265, u266, u267, u268, u269, u270, u271, u272, u273, u274, u275, u276, u277, u278, u279, u280, u281, u282, u283, u284, u285, u286, u287, u288, u289, u290, u291, u292, u293, u294, u295, u296, u297, u298, u299, u300, u301, u302, u303, u304, u305, u306, u307, u308, u309, u310, u311, u312, u313, u314, u315, u316, u317, u318, u319, u320, u321, u322, u323, u324, u325, u326, u327, u328, u329, u330, u331, u332, u333, u334, u335, u336, u337, u338, u339, u340, u341, u342, u343, u344, u345, u346, u347, u348, u349, u350, u351, u352, u353, u354, u355, u356, u357, u358, u359, u360, u361, u362, u363, u364, u365, u366, u367, u368, u369, u370, u371, u372, u373, u374, u375, u376, u377, u378, u379, u380, u381, u382, u383, u384, u385, u386, u387, u388, u389, u390, u391, u392, u393, u394, u395, u396, u397, u398, u399, u400, u401, u402, u403, u404, u405, u406, u407, u408, u409, u410, u411, u412, u413, u414, u415, u416, u417, u418, u419, u420, u421, u422, u423, u424, u425, u426, u427, u428, u429, u430, u431, u432, u433, u434, u435, u436, u437, u438, u439, u440, u441, u442, u443, u444, u445, u446, u447, u448, u449, u450, u451, u452, u453, u454, u455, u456, u457, u458, u459, u460, u461, u462, u463, u464, u465, u466, u467, u468, u469, u470, u471, u472, u473, u474, u475, u476, u477, u478, u479, u480, u481, u482, u483, u484, u485, u486, u487, u488, u489, u490, u491, u492, u493, u494, u495, u496, u497, u498, u499, u500, u501, u502, u503, u504, u505, u506, u507, u508, u509, u510, u511, u512, u513, u514, u515, u516, u517, u518, u519, u520, u521, u522, u523, u524, u525, u526, u527, u528, u529, u530, u531, u532, u533, u534, u535, u536, u537, u538, u539, u540, u541, u542, u543, u544, u545, u546, u547, u548, u549, u550, u551, u552, u553, u554, u555, u556, u557, u558, u559, u560, u561, u562, u563, u564, u565, u566, u567, u568, u569, u570, u571, u572, u573, u574, u575, u576, u577, u578, u579, u580, u581, u582, u583, u584, u585, u586, u587, u588, u589, u590, u591, u592, u593, u594, u595, u596], []⟩ W

theorem rowZ_round {W : World} {b m k : Nat} {v : Int} {f : Nat → Int} {z : Value} (h : Rw W b 3 m (fun i => if i < k then vZ f i else z)) (e1 : f k = v) : Rw (W.setCell ⟨b, k, none⟩ (.int .i64 v)) b 3 m (fun i => if i < k + 1 then vZ f i else z) := (h.set k (.int .i64 v)).congr (fun i _ => by
  by_cases e : i = k
  · subst e
    simp [vZ, e1]
  · by_cases e2 : i < k
    · simp [e, e2, Nat.lt_succ_of_lt e2]
    · have : ¬ i < k + 1 := by omega
      simp [e, e2, this])

set_option maxHeartbeats 4000000 in
set_option maxRecDepth 200000 in
theorem lawD (ar ag am : Option Addr) (n m q capr capg capm el ns E S : Nat) (L : Int) (w : World) (mbk moff : Nat) (MV mks : Nat → Int) (rs ss st en : Nat → Nat) (hm : m ≤ 4096) (hE : E ≤ 16) (hS : S ≤ 5)
    (ham : 0 < q → am = some ⟨mbk, moff, none⟩ ∧ mbk < w.heap.size) (hmc : ∀ j, j < q → w.cell? ⟨mbk, moff + j, none⟩ = some (.int .i32 (MV j)))
    (hmv : ∀ j, -2147483648 ≤ MV j ∧ MV j ≤ 2147483647) (hmk : ∀ e, mks e = if (if e < q then MV e else 0) > L then L else (if e < q then MV e else 0))
    (HNEXT : At19 ar ag am n m q capr capg capm el ns E S L rs ss st en mks w) : At13 ar ag am n m q capr capg capm el ns E S L rs ss st en w := by
  unfold At13
  intro b16 b19 c19 b20 b21 b28 W hM u6 u7 u8 u9 u10 u11 u17 u18 u22 u23 u24 u25 u26 u29 u30 u31 u32 u33 u34 u35 u36 u37 u38 u39 u40 u41 u42 u43 u44 u45 u46 u47 u48 u49 u50 u51 u52 u53 u54 u55 u56 u57 u58 u59 u60 u61 u62 u63 u64 u65 u66 u67 u68 u69 u70 u71 u72 u73 u74 u75 u76 u77 u78 u79 u80 u81 u82 u83 u84 u85 u86 u87 u88 u89 u90 u91 u92 u93 u94 u95 u96 u97 u98 u99 u100 u101 u102 u103 u104 u105 u106 u107 u108 u109 u110 u111 u112 u113 u114 u115 u116 u117 u118 u119 u120 u121 u122 u123 u124 u125 u126 u127 u128 u129 u130 u131 u132 u133 u134 u135 u136 u137 u138 u139 u140 u141 u142 u143 u144 u145 u146 u147 u148 u149 u150 u151 u152 u153 u154 u155 u156 u157 u158 u159 u160 u161 u162 u163 u164 u165 u166 u167 u168 u169 u170 u171 u172 u173 u174 u175 u176 u177 u178 u179 u180 u181 u182 u183 u184 u185 u186 u187 u188 u189 u190 u191 u192 u193 u194 u195 u196 u197 u198 u199 u200 u201 u202 u203 u204 u205 u206 u207 u208 u209 u210 u211 u212 u213 u214 u215 u216 u217 u218 u219 u220 u221 u222 u223 u224 u225 u226 u227 u228 u229 u230 u231 u232 u233 u234 u235 u236 u237 u238 u239 u240 u241 u242 u243 u244 u245 u246 u247 u248 u249 u250 u251 u252 u253 u254 u255 u256 u257 u258 u259 u260 u261 u262 u263 u264 u265 u266 u267 u268 u269 u270 u271 u272 u273 u274 u275 u276 u277 u278 u279 u280 u281 u282 u283 u284 u285 u286 u287 u288 u289 u290 u291 u292 u293 u294 u295 u296 u297 u298 u299 u300 u301 u302 u303 u304 u305 u306 u307 u308 u309 u310 u311 u312 u313 u314 u315 u316 u317 u318 u319 u320 u321 u322 u323 u324 u325 u326 u327 u328 u329 u330 u331 u332 u333 u334 u335 u336 u337 u338 u339 u340 u341 u342 u343 u344 u345 u346 u347 u348 u349 u350 u351 u352 u353 u354 u355 u356 u357 u358 u359 u360 u361 u362 u363 u364 u365 u366 u367 u368 u369 u370 u371 u372 u373 u374 u375 u376 u377 u378 u379 u380 u381 u382 u383 u384 u385 u386 u387 u388 u389 u390 u391 u392 u393 u394 u395 u396 u397 u398 u399 u400 u401 u402 u403 u404 u405 u406 u407 u408 u409 u410 u411 u412 u413 u414 u415 u416 u417 u418 u419 u420 u421 u422 u423 u424 u425 u426 u427 u428 u429 u430 u431 u432 u433 u434 u435 u436 u437 u438 u439 u440 u441 u442 u443 u444 u445 u446 u447 u448 u449 u450 u451 u452 u453 u454 u455 u456 u457 u458 u459 u460 u461 u462 u463 u464 u465 u466 u467 u468 u469 u470 u471 u472 u473 u474 u475 u476 u477 u478 u479 u480 u481 u482 u483 u484 u485 u486 u487 u488 u489 u490 u491 u492 u493 u494 u495 u496 u497 u498 u499 u500 u501 u502 u503 u504 u505 u506 u507 u508 u509 u510 u511 u512 u513 u514 u515 u516 u517 u518 u519 u520 u521 u522 u523 u524 u525 u526 u527 u528 u529 u530 u531 u532 u533 u534 u535 u536 u537 u538 u539 u540 u541 u542 u543 u544 u545 u546 u547 u548 u549 u550 u551 u552 u553 u554 u555 u556 u557 u558 u559 u560 u561 u562 u563 u564 u565 u566 u567 u568 u569 u570 u571 u572 u573 u574 u575 u576 u577 u578 u579 u580 u581 u582 u583 u584 u585 u586 u587 u588 u589 u590 u591 u592 u593 u594 u595 u596
  have HX : Hid (At19 ar ag am n m q capr capg capm el ns E S L rs ss st en mks w) := HNEXT
  have HM : Hid (M13 w n m E rs ss st en b16 b19 b20 b21 b28 W) := hM
  have HE : Hid (∀ e, mks e = if (if e < q then MV e else 0) > L then L else (if e < q then MV e else 0)) := hmk
  have HG : Hid ((0 < q → am = some ⟨mbk, moff, none⟩ ∧ mbk < w.heap.size) ∧ (∀ j, j < q → w.cell? ⟨mbk, moff + j, none⟩ = some (.int .i32 (MV j))) ∧ ∀ j, -2147483648 ≤ MV j ∧ MV j ≤ 2147483647) := ⟨ham, hmc, hmv⟩
  obtain ⟨o1, o2, o3, o4, o5⟩ := hM.o
  clear HNEXT ham hmc hmv hmk hM
  conv => arg 2; whnf
  conv => arg 4; dsimp only
  refine seq_var (fun K hK => ?_)
  have HK13 : Hid _ := hK
  clear hK
  go_wp2
  go_loopw [154] (fun v154 wr => ∃ k : Nat, v154 = .int .i64 (k : Int) ∧ k ≤ E ∧ Rw wr b28 3 E (fun i => if i < k then vZ mks i else .int .i64 0) ∧ Below b28 W wr) (fun v154 _ => E - (intOf v154).toNat)
  case atStart => exact ⟨0, rfl, Nat.zero_le _, HM.out.r28.congr (fun i _ => by simp), Below.refl _ _⟩
  case round =>
    rename World => W2
    obtain ⟨k, rfl, hkm, hr, hbel⟩ := hrel
    by_cases hlt : k < E
    · have hlt' : (k : Int) < (E : Int) := by omega
      have c28 := hr.cell hlt
      have f28 := hr.frozen k
      have he := HE.out k
      by_cases hq : k < q
      · have hq' : (k : Int) < (q : Int) := by omega
        obtain ⟨rfl, hml⟩ := HG.out.1 (by omega)
        have hbw : Below w.heap.size w W2 := HM.out.bel.trans (hbel.mono (by omega))
        have c1 := (hbw.cell (p := ⟨mbk, moff + k, none⟩) hml).trans (HG.out.2.1 k hq)
        obtain ⟨y, hy⟩ : ∃ y, y = MV k := ⟨_, rfl⟩
        have hyb := HG.out.2.2 k
        rw [← hy] at c1 hyb
        rw [if_pos hq, ← hy] at he
        obtain ⟨hy1, hy2⟩ := hyb
        clear hy
        by_cases hl : y > L
        · rw [if_pos hl] at he
          have HA : Hid (Rw (W2.setCell ⟨b28, k, none⟩ (.int .i64 L)) b28 3 E (fun i => if i < k + 1 then vZ mks i else .int .i64 0)) := rowZ_round hr he
          have HB : Hid (Below b28 W (W2.setCell ⟨b28, k, none⟩ (.int .i64 L))) := hbel.setCell (Nat.le_refl _) _
          clear hr hbel he
          go_wp2
          go_roundw
          case rel => exact ⟨k + 1, by go_num, by omega, HA.out, HB.out⟩
          case measure => simp [intOf]; omega
        · rw [if_neg hl] at he
          have HA : Hid (Rw (W2.setCell ⟨b28, k, none⟩ (.int .i64 y)) b28 3 E (fun i => if i < k + 1 then vZ mks i else .int .i64 0)) := rowZ_round hr he
          have HB : Hid (Below b28 W (W2.setCell ⟨b28, k, none⟩ (.int .i64 y))) := hbel.setCell (Nat.le_refl _) _
          clear hr hbel he
          go_wp2
          go_roundw
          case rel => exact ⟨k + 1, by go_num, by omega, HA.out, HB.out⟩
          case measure => simp [intOf]; omega
      · have hq' : ¬ (k : Int) < (q : Int) := by omega
        rw [if_neg hq] at he
        by_cases hl : (0 : Int) > L
        · rw [if_pos hl] at he
          have HA : Hid (Rw (W2.setCell ⟨b28, k, none⟩ (.int .i64 L)) b28 3 E (fun i => if i < k + 1 then vZ mks i else .int .i64 0)) := rowZ_round hr he
          have HB : Hid (Below b28 W (W2.setCell ⟨b28, k, none⟩ (.int .i64 L))) := hbel.setCell (Nat.le_refl _) _
          clear hr hbel he
          go_wp2
          go_roundw
          case rel => exact ⟨k + 1, by go_num, by omega, HA.out, HB.out⟩
          case measure => simp [intOf]; omega
        · rw [if_neg hl] at he
          have HA : Hid (Rw (W2.setCell ⟨b28, k, none⟩ (.int .i64 0)) b28 3 E (fun i => if i < k + 1 then vZ mks i else .int .i64 0)) := rowZ_round hr he
          have HB : Hid (Below b28 W (W2.setCell ⟨b28, k, none⟩ (.int .i64 0))) := hbel.setCell (Nat.le_refl _) _
          clear hr hbel he
          go_wp2
          go_roundw
          case rel => exact ⟨k + 1, by go_num, by omega, HA.out, HB.out⟩
          case measure => simp [intOf]; omega
    · have hlt' : ¬ (k : Int) < (E : Int) := by omega
      obtain rfl : k = E := by omega
      have hr' : Rw W2 b28 3 k (vZ mks) := hr.congr (fun i hi => by rw [if_pos hi])
      have HF : Hid (Rw W2 b28 3 k (vZ mks) ∧ Below b28 W W2) := ⟨hr', hbel⟩
      have hcl := clone5 b28 0 k k (fun i => mks i) W2 (by omega) (fun i hi => by rw [Nat.zero_add]; exact hr'.cell hi)
      have HC : Hid (Calls Ybgt.prog 5 #[.slice (some ⟨b28, 0, none⟩) k k] W2 (ResC 3 k (fun i => .int .i64 (mks i)) W2)) := hcl
      clear hr hr' hbel hcl
      have hmk1 := make33 S (by omega)
      have hmk2 := make31 S (by omega)
      have hmk3 := make24_0 m (by omega)
      go_wp2
      refine HK13.out _ _ ?_
      clear HK13
      refine seq_var (fun K hK => ?_)
      have HK14 : Hid _ := hK
      clear hK
      go_wp2_with (go_at_call 5; refine HC.out.mono ?_; rintro e W3 ⟨b31, c31, rfl, hcap, hge, hrw, hbl⟩)
      refine HK14.out _ _ ?_
      clear HK14 K
      have HF2 : Hid (W2.heap.size ≤ b31 ∧ Rw W3 b31 3 k (fun i => .int .i64 (mks i)) ∧ Below W2.heap.size W2 W3) := ⟨hge, hrw, hbl⟩
      clear hge hrw hbl hcap
      refine seq_var (fun K hK => ?_)
      have HK15 : Hid _ := hK
      clear hK
      go_wp2
      refine HK15.out _ _ ?_
      clear HK15 K
      refine seq_var (fun K hK => ?_)
      have HK16 : Hid _ := hK
      clear hK
      go_wp2
      refine HK16.out _ _ ?_
      clear HK16 K
      refine seq_var (fun K hK => ?_)
      have HK17 : Hid _ := hK
      clear hK
      go_wp2
      refine HK17.out _ _ ?_
      clear HK17 K
      refine seq_var (fun K hK => ?_)
      have HK18 : Hid _ := hK
      clear hK
      go_wp2
      refine HK18.out _ _ ?_
      clear HK18 K
      have hx := HX.out
      unfold At19 at hx
      have hM := HM.out
      obtain ⟨h1, h2⟩ := HF.out
      obtain ⟨h3, h4, h5⟩ := HF2.out
      have l28 := h1.lt
      have l31 := h4.lt
      have s2 := h2.size
      have s5 := h5.size
      have sW := HM.out.r28.lt
      have r16 := (hM.r16.below h2 (by omega)).below h5 (by omega)
      have r19 := (hM.r19.below h2 (by omega)).below h5 (by omega)
      have r20 := (hM.r20.below h2 (by omega)).below h5 (by omega)
      have r21 := (hM.r21.below h2 (by omega)).below h5 (by omega)
      have r28 := h1.below h5 l28
      have hb3 : Below w.heap.size w W3 := (hM.bel.trans (h2.mono (by omega))).trans (h5.mono (by have := hM.bel.size; omega))
      have m32 := madeK W3 #[.slice none 0 0, .slice none 0 0, .slice none 0 0, .int .i32 0, .slice none 0 0] 5 S 36 rfl (by omega)
      obtain ⟨W4, hW4⟩ : ∃ W4, W4 = W3.alloc (.cells (madeCells #[.slice none 0 0, .slice none 0 0, .slice none 0 0, .int .i32 0, .slice none 0 0] (S * 5)) 36) := ⟨_, rfl⟩
      have z4 : W4.heap.size = W3.heap.size + 1 := by rw [hW4, World.size_alloc]
      rw [← hW4] at m32
      have m33 := Rw.ofIs (World.rowIs_made W4 (.int .i64 0) S 3)
      obtain ⟨W5, hW5⟩ : ∃ W5, W5 = W4.alloc (.cells (madeCells #[.int .i64 0] S) 3) := ⟨_, rfl⟩
      have z5 : W5.heap.size = W3.heap.size + 2 := by rw [hW5, World.size_alloc, z4]
      rw [← hW5] at m33
      have m34 := Rw.ofIs (World.rowIs_made W5 (.int .i64 0) S 3)
      obtain ⟨W6, hW6⟩ : ∃ W6, W6 = W5.alloc (.cells (madeCells #[.int .i64 0] S) 3) := ⟨_, rfl⟩
      have z6 : W6.heap.size = W3.heap.size + 3 := by rw [hW6, World.size_alloc, z5]
      rw [← hW6] at m34
      have m35 := World.ownsRow_made (base := W3.heap.size + 3) (size := 1) (e := 21) W6 (madeCells #[.int .i32 0] m) m (by omega) (by simp only [maxLen]; omega) (by simp [size_madeCells])
      rw [z4] at m33
      rw [z5] at m34
      rw [z6] at m35
      have e4 : ∀ {b T n : Nat} {f : Nat → Value}, Rw W3 b T n f → Rw (W6.alloc (.cells (madeCells #[.int .i32 0] m) 21)) b T n f := fun h => by rw [hW6, hW5, hW4]; exact (((h.alloc _).alloc _).alloc _).alloc _
      have b4 : Below w.heap.size w W4 := by rw [hW4]; exact hb3.alloc hb3.size _
      have b5 : Below w.heap.size w W5 := by rw [hW5]; exact b4.alloc b4.size _
      have b6 : Below w.heap.size w W6 := by rw [hW6]; exact b5.alloc b5.size _
      have hM19 : M19 w n m k S rs ss st en mks b16 b19 b20 b21 b28 b31 W3.heap.size (W3.heap.size + 1) (W3.heap.size + 2) (W3.heap.size + 3) (W6.alloc (.cells (madeCells #[.int .i32 0] m) 21)) :=
        ⟨b6.alloc b6.size _, e4 r16, e4 r19, e4 r20, e4 r21, e4 r28, e4 h4, by rw [hW6, hW5]; exact ((m32.alloc _).alloc _).alloc _, by rw [hW6]; exact (m33.alloc _).alloc _, m34.alloc _, m35, ⟨o1, o2, o3, o4, o5, by omega, by omega, by omega, by omega, by omega, by rw [World.size_alloc]; omega⟩⟩
      rw [hW6, hW5, hW4] at hM19
      apply hx _ _ _ _ _ _ _ c31 _ _ _ _ _ hM19
end Go.Proofs.Yboneofkt
