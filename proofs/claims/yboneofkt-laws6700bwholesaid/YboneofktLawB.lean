/-
  The law: the results.
-/
import Derived.Test.YboneofktLawA
namespace Go.Proofs.Yboneofkt
open Go.RowKit

def vI32 (f : Nat → Nat) (i : Nat) : Value := .int .i32 (f i : Int)
def vI64 (f : Nat → Nat) (i : Nat) : Value := .int .i64 (f i : Int)

/-- the memory behind the first statements. -/
structure M10 (w : World) (n m : Nat) (rs : Nat → Nat) (b16 b19 b20 b21 : Nat) (W : World) : Prop where
  bel : Below w.heap.size w W
  r16 : Rw W b16 21 n (vI32 rs)
  r19 : Rw W b19 21 n (vI32 rs)
  r20 : Rw W b20 30 (m * 6) (fun j => (#[.int .i32 0, .int .i64 0, .int .i64 0, .int .i64 0, .int .i64 0, .int .i64 0] : Array Value)[j % 6]?.getD default)
  r21 : Rw W b21 21 m (fun _ => .int .i32 0)
  o : w.heap.size ≤ b16 ∧ b16 < b19 ∧ b19 < b20 ∧ b20 < b21

def At10 (ar ag am : Option Addr) (n m q capr capg capm el ns E S : Nat) (L : Int) (rs : Nat → Nat) (w : World) : Prop := ∀ (b16 b19 c19 b20 b21 : Nat) (W : World), M10 w n m rs b16 b19 b20 b21 W → ∀ (u6 u7 u8 u9 u10 u11 u17 u18 u22 u23 u24 u25 u26 u27 u28 u29 u30 u31 u32 u33 u34 u35 u36 u37 u38 u39 u40 u41 u42 u43 u44 u45 u46 u47 u48 u49 u50 u51 u52 u53 u54 u55 u56 u57 u58 u59 u60 u61 u62 u63 u64 u65 u66 u67 u68 u69 u70 u71 u72 u73 u74 u75 u76 u77 u78 u79 u80 u81 u82 u83 u84 u85 u86 u87 u88 u89 u90 u91 u92 u93 u94 u95 u96 u97 u98 u99 u100 u101 u102 u103 u104 u105 u106 u107 u108 u109 u110 u111 u112 u113 u114 u115 u116 u117 u118 u119 u120 u121 u122 u123 u124 u125 u126 u127 u128 u129 u130 u131 u132 u133 u134 u135 u136 u137 u138 u139 u140 u141 u142 u143 u144 u145 u146 u147 u148 u149 u150 u151 u152 u153 u154 u155 u156 u157 u158 u159 u160 u161 u162 u163 u164 u165 u166 u167 u168 u169 u170 u171 u172 u173 u174 u175 u176 u177 u178 u179 u180 u181 u182 u183 u184 u185 u186 u187 u188 u189 u190 u191 u192 u193 u194 u195 u196 u197 u198 u199 u200 u201 u202 u203 u204 u205 u206 u207 u208 u209 u210 u211 u212 u213 u214 u215 u216 u217 u218 u219 u220 u221 u222 u223 u224 u225 u226 u227 u228 u229 u230 u231 u232 u233 u234 u235 u236 u237 u238 u239 u240 u241 u242 u243 u244 u245 u246 u247 u248 u249 u250 u251 u252 u253 u254 u255 u256 u257 u258 u259 u260 u261 u262 u263 u264 u265 u266 u267 u268 u269 u270 u271 u272 u273 u274 u275 u276 u277 u278 u279 u280 u281 u282 u283 u284 u285 u286 u287 u288 u289 u290 u291 u292 u293 u294 u295 u296 u297 u298 u299 u300 u301 u302 u303 u304 u305 u306 u307 u308 u309 u310 u311 u312 u313 u314 u315 u316 u317 u318 u319 u320 u321 u322 u323 u324 u325 u326 u327 u328 u329 u330 u331 u332 u333 u334 u335 u336 u337 u338 u339 u340 u341 u342 u343 u344 u345 u346 u347 u348 u349 u350 u351 u352 u353 u354 u355 u356 u357 u358 u359 u360 u361 u362 u363 u364 u365 u366 u367 u368 u369 u370 u371 u372 u373 u374 u375 u376 u377 u378 u379 u380 u381 u382 u383 u384 u385 u386 u387 u388 u389 u390 u391 u392 u393 u394 u395 u396 u397 u398 u399 u400 u401 u402 u403 u404 u405 u406 u407 u408 u409 u410 u411 u412 u413 u414 u415 u416 u417 u418 u419 u420 u421 u422 u423 u424 u425 u426 u427 u428 u429 u430 u431 u432 u433 u434 u435 u436 u437 u438 u439 u440 u441 u442 u443 u444 u445 u446 u447 u448 u449 u450 u451 u452 u453 u454 u455 u456 u457 u458 u459 u460 u461 u462 u463 u464 u465 u466 u467 u468 u469 u470 u471 u472 u473 u474 u475 u476 u477 u478 u479 u480 u481 u482 u483 u484 u485 u486 u487 u488 u489 u490 u491 u492 u493 u494 u495 u496 u497 u498 u499 u500 u501 u502 u503 u504 u505 u506 u507 u508 u509 u510 u511 u512 u513 u514 u515 u516 u517 u518 u519 u520 u521 u522 u523 u524 u525 u526 u527 u528 u529 u530 u531 u532 u533 u534 u535 u536 u537 u538 u539 u540 u541 u542 u543 u544 u545 u546 u547 u548 u549 u550 u551 u552 u553 u554 u555 u556 u557 u558 u559 u560 u561 u562 u563 u564 u565 u566 u567 u568 u569 u570 u571 u572 u573 u574 u575 u576 u577 u578 u579 u580 u581 u582 u583 u584 u585 u586 u587 u588 u589 u590 u591 u592 u593 u594 u595 u596 : Value),
    Code.wp Ybgt.prog (tlN 10 (Ybgt.f3.body.getD .skip)) (bodyPost Ybgt.prog Ybgt.f3 (Post w)) ⟨#[.slice ar n capr, .slice ag m capg, .int .u8 (el : Int), .int .u8 (ns : Int), .slice am q capm, .int .i32 L, u6, u7, u8, u9, u10, u11, .bool false, .int .i64 (E : Int), .int .i64 (S : Int), .int .i64 (n : Int), .slice (some ⟨b16, 0, none⟩) n n, u17, u18, .slice (some ⟨b19, 0, none⟩) n c19, .slice (some ⟨b20, 0, none⟩) m m, .slice (some ⟨b21, 0, none⟩) m m, u22, u23, u24, u25, u26, u27, u28, u29, u30, u31, u32, u33, u34, u35, u36, u37, u38, u39, u40, u41, u42, u43, u44, u45, u46, u47, u48, u49, u50, u51, u52, u53, u54, u55, u56, u57, u58, u59, u60, u61, u62, u63, u64, u65, u66, u67, u68, u69, u70, u71, u72, u73, u74, u75, u76, u77, u78, u79, u80, u81, u82, u83, u84, u85, u86, u87, u88, u89, u90, u91, u92, u93, u94, u95, u96, u97, u98, u99, u100, u101, u102, u103, u104, u105, u106, u107, u108, u109, u110, u111, u112, u113, u114, u115, u116, u117, u118, u119, u120, u121, u122, u123, u124, u125, u126, u127, u128, u129, u130, u131, u132, u133, u134, u135, u136, u137, u138, u139, u140, u141, u142, u143, u144, u145, u146, u147, u148, u149, u150, u151, u152, u153, u154, u155, u156, u157, u158, u159, u160, u161, u162, u163, u164, u165, u166, u167, u168, u169, u170, u171, u172, u173, u174, u175, u176, u177, u178, u179, u180, u181, u182, u183, u184, u185, u186, u187, u188, u189, u190, u191, u192, u193, u194, u195, u196, u197, u198, u199, u200, u201, u202, u203, u204, u205, u206, u207, u208, u209, u210, u211, u212, u213, u214, u215, u216, u217, u218, u219, u220, u221, u222, u223, u224, u225, u226, u227, u228, u229, u230, u231, u232, u233, u234, u235, u236, u237, u238, u239, u240, u241, u242, u243, u244, u245, u246, u247, u248, u249, u250, u251, u252, u253, u254, u255, u256, u257, u258, u259, u260, u261, u262, u263, u264, u265, u266, u267, u268, u269, u270, u271, u272, u273, u274, u275, u276, u277, u278, u279, u280, u281, u282, u283, u284, u285, u286, u287, u288, u289, u290, u291, u292, u293, u294, u295, u296, u297, u298, u299, u300, u301, u302, u303, u304, u305, u306, u307, u308, u309, u310, u311, u312, u313, u314, u315, u316, u317, u318, u319, u320, u321, u322, u323, u324, u325, u326, u327, u328, u329, u330, u331, u332, u333, u334, u335, u336, u337, u338, u339, u340, u341, u342, u343, u344, u345, u346, u347, u348, u349, u350, u351, u352, u353, u354, u355, u356, u357, u358, u359, u360, u361, u362, u363, u364, u365, u366, u367, u368, u369, u370, u371, u372, u373, u374, u375, u376, u377, u378, u379, u380, u381, u382, u383, u384, u385, u386, u387, u388, u389, u390, u391, u392, u393, u394, u395, u396, u397, u398, u399, u400, u401, u402, u403, u404, u405, u406, u407, u408, u409, u410, u411, u412, u413, u414, u415, u416, u417, u418, u419, u420, u421, u422, u423, u424, u425, u426, u427, u428, u429, u430, u431, u432, u433, u434, u435, u436, u437, u438, u439, u440, u441, u442, u443, u444, u445, u446, u447, u448, u449, u450, u451, u452, u453, u454, u455, u456, u457, u458, u459, u460, u461, u462, u463, u464, u465, u466, u467, u468, u469, u470, u471, u472, u473, u474, u475, u476, u477, u478, u479, u480, u481, u482, u483, u484, u485, u486, u487, u488, u489, u490, u491, u492, u493, u494, u495, u496, u497, u498, u499, u500, u501, u502, u503, u504, u505, u506, u507, u508, u509, u510, u511, u512, u513, u514, u515, u516, u517, u518, u519, u520, u521, u522, u523, u524, u525, u526, u527, u528, u529, u530, u531, u532, u533, u534, u535, u536, u537, u538, u539, u540, u541, u542, u543, u544, u545, u546, u547, u548, u549, u550, u551, u552, u553, u554, u555, u556, u557, u558, u559, u560, u561, u562, u563, u564, u565, u566, u567, u568, u569, u570, u571, u572, u573, u574, u575, u576, u577, u578, u579, u580, u581, u582, u583, u584, u585, u586, u587, u588, u589, u590, u591, u592, u593, u594, u595, u596], []⟩ W

set_option maxHeartbeats 4000000 in
set_option maxRecDepth 200000 in
theorem lawB (ar ag am : Option Addr) (n m q capr capg capm el ns E S : Nat) (L : Int) (w : World) (rbk roff : Nat) (RV rs : Nat → Nat) (hn : n ≤ 65536) (hm : m ≤ 4096) (hE0 : 0 < E) (hE : E ≤ 16) (hrs : ∀ j, rs j = RV j % E)
    (har : 0 < n → ar = some ⟨rbk, roff, none⟩ ∧ rbk < w.heap.size) (hrc : ∀ j, j < n → w.cell? ⟨rbk, roff + j, none⟩ = some (.int .u8 (RV j : Int))) (hrv : ∀ j, RV j ≤ 255)
    (HNEXT : At10 ar ag am n m q capr capg capm el ns E S L rs w) : At6 ar ag am n m q capr capg capm el ns E S L w := by
  unfold At6
  intro b16 W hb hr hbel u6 u7 u8 u9 u10 u11 u17 u18 u19 u20 u21 u22 u23 u24 u25 u26 u27 u28 u29 u30 u31 u32 u33 u34 u35 u36 u37 u38 u39 u40 u41 u42 u43 u44 u45 u46 u47 u48 u49 u50 u51 u52 u53 u54 u55 u56 u57 u58 u59 u60 u61 u62 u63 u64 u65 u66 u67 u68 u69 u70 u71 u72 u73 u74 u75 u76 u77 u78 u79 u80 u81 u82 u83 u84 u85 u86 u87 u88 u89 u90 u91 u92 u93 u94 u95 u96 u97 u98 u99 u100 u101 u102 u103 u104 u105 u106 u107 u108 u109 u110 u111 u112 u113 u114 u115 u116 u117 u118 u119 u120 u121 u122 u123 u124 u125 u126 u127 u128 u129 u130 u131 u132 u133 u134 u135 u136 u137 u138 u139 u140 u141 u142 u143 u144 u145 u146 u147 u148 u149 u150 u151 u152 u153 u154 u155 u156 u157 u158 u159 u160 u161 u162 u163 u164 u165 u166 u167 u168 u169 u170 u171 u172 u173 u174 u175 u176 u177 u178 u179 u180 u181 u182 u183 u184 u185 u186 u187 u188 u189 u190 u191 u192 u193 u194 u195 u196 u197 u198 u199 u200 u201 u202 u203 u204 u205 u206 u207 u208 u209 u210 u211 u212 u213 u214 u215 u216 u217 u218 u219 u220 u221 u222 u223 u224 u225 u226 u227 u228 u229 u230 u231 u232 u233 u234 u235 u236 u237 u238 u239 u240 u241 u242 u243 u244 u245 u246 u247 u248 u249 u250 u251 u252 u253 u254 u255 u256 u257 u258 u259 u260 u261 u262 u263 u264 u265 u266 u267 u268 u269 u270 u271 u272 u273 u274 u275 u276 u277 u278 u279 u280 u281 u282 u283 u284 u285 u286 u287 u288 u289 u290 u291 u292 u293 u294 u295 u296 u297 u298 u299 u300 u301 u302 u303 u304 u305 u306 u307 u308 u309 u310 u311 u312 u313 u314 u315 u316 u317 u318 u319 u320 u321 u322 u323 u324 u325 u326 u327 u328 u329 u330 u331 u332 u333 u334 u335 u336 u337 u338 u339 u340 u341 u342 u343 u344 u345 u346 u347 u348 u349 u350 u351 u352 u353 u354 u355 u356 u357 u358 u359 u360 u361 u362 u363 u364 u365 u366 u367 u368 u369 u370 u371 u372 u373 u374 u375 u376 u377 u378 u379 u380 u381 u382 u383 u384 u385 u386 u387 u388 u389 u390 u391 u392 u393 u394 u395 u396 u397 u398 u399 u400 u401 u402 u403 u404 u405 u406 u407 u408 u409 u410 u411 u412 u413 u414 u415 u416 u417 u418 u419 u420 u421 u422 u423 u424 u425 u426 u427 u428 u429 u430 u431 u432 u433 u434 u435 u436 u437 u438 u439 u440 u441 u442 u443 u444 u445 u446 u447 u448 u449 u450 u451 u452 u453 u454 u455 u456 u457 u458 u459 u460 u461 u462 u463 u464 u465 u466 u467 u468 u469 u470 u471 u472 u473 u474 u475 u476 u477 u478 u479 u480 u481 u482 u483 u484 u485 u486 u487 u488 u489 u490 u491 u492 u493 u494 u495 u496 u497 u498 u499 u500 u501 u502 u503 u504 u505 u506 u507 u508 u509 u510 u511 u512 u513 u514 u515 u516 u517 u518 u519 u520 u521 u522 u523 u524 u525 u526 u527 u528 u529 u530 u531 u532 u533 u534 u535 u536 u537 u538 u539 u540 u541 u542 u543 u544 u545 u546 u547 u548 u549 u550 u551 u552 u553 u554 u555 u556 u557 u558 u559 u560 u561 u562 u563 u564 u565 u566 u567 u568 u569 u570 u571 u572 u573 u574 u575 u576 u577 u578 u579 u580 u581 u582 u583 u584 u585 u586 u587 u588 u589 u590 u591 u592 u593 u594 u595 u596
  have HX : Hid (At10 ar ag am n m q capr capg capm el ns E S L rs w) := HNEXT
  have HR : Hid (∀ j, rs j = RV j % E) := hrs
  have HRC : Hid (∀ j, j < n → w.cell? ⟨rbk, roff + j, none⟩ = some (.int .u8 (RV j : Int))) := hrc
  have HAR : Hid (0 < n → ar = some ⟨rbk, roff, none⟩ ∧ rbk < w.heap.size) := har
  have HRV : Hid (∀ j, RV j ≤ 255) := hrv
  clear HNEXT hrs hrc har hrv
  conv => arg 2; whnf
  conv => arg 4; dsimp only
  refine seq_var (fun K hK => ?_)
  have HK6 : Hid _ := hK
  clear hK
  go_wp2
  go_loopw [84] (fun v84 wr => ∃ k : Nat, v84 = .int .i64 (k : Int) ∧ k ≤ n ∧ Rw wr b16 21 n (fun i => if i < k then vI32 rs i else .int .i32 0) ∧ Below w.heap.size w wr) (fun v84 _ => n - (intOf v84).toNat)
  case atStart => exact ⟨0, rfl, Nat.zero_le _, hr.congr (fun i _ => by simp), hbel⟩
  case round =>
    clear hr hbel
    rename World => W2
    obtain ⟨k, rfl, hkn, hr, hbel⟩ := hrel
    by_cases hlt : k < n
    · have hlt' : (k : Int) < (n : Int) := by omega
      obtain ⟨rfl, hrl⟩ := HAR.out (by omega)
      have c1 := (hbel.cell (p := ⟨rbk, roff + k, none⟩) hrl).trans (HRC.out k hlt)
      have hx := HRV.out k
      obtain ⟨x, hxe⟩ : ∃ x, x = RV k := ⟨_, rfl⟩
      rw [← hxe] at c1 hx
      obtain ⟨r, hre⟩ : ∃ r, r = x % E := ⟨_, rfl⟩
      have hr1 : (x : Int) % (E : Int) = (r : Int) := by rw [hre]; omega
      have hr2 : r < E := by rw [hre]; exact Nat.mod_lt _ hE0
      have hw : IntKind.i32.wrap (r : Int) = r := by simp [IntKind.wrap, IntKind.bits, IntKind.signed]; omega
      have c2 := hr.cell hlt
      simp only [Nat.lt_irrefl, if_false] at c2
      have f2 := hr.frozen k
      have HS : Hid (Rw (W2.setCell ⟨b16, k, none⟩ (.int .i32 (r : Int))) b16 21 n (fun i => if i < k + 1 then vI32 rs i else .int .i32 0)) := (hr.set k (.int .i32 (r : Int))).congr (fun i _ => by
        by_cases e : i = k
        · subst e
          simp only [if_true, Nat.lt_succ_self, vI32]
          rw [HR.out, hre, hxe]
        · by_cases e2 : i < k
          · simp [e, e2, Nat.lt_succ_of_lt e2]
          · have : ¬ i < k + 1 := by omega
            simp [e, e2, this])
      have HB : Hid (Below w.heap.size w (W2.setCell ⟨b16, k, none⟩ (.int .i32 (r : Int)))) := hbel.setCell hb _
      clear hr hbel hxe hre
      go_wp2
      go_roundw
      case rel => exact ⟨k + 1, by go_num, by omega, HS.out, HB.out⟩
      case measure => simp [intOf]; omega
    · have hlt' : ¬ (k : Int) < (n : Int) := by omega
      obtain rfl : k = n := by omega
      have hr2 : Rw W2 b16 21 k (vI32 rs) := hr.congr (fun i hi => by simp [hi])
      clear hr
      go_wp2
      refine HK6.out _ _ ?_
      clear HK6
      have hcl := clone4 b16 0 k k (fun i => (rs i : Int)) W2 (by omega) (fun i hi => by rw [Nat.zero_add]; exact hr2.cell hi)
      have HC : Hid (Calls Ybgt.prog 4 #[.slice (some ⟨b16, 0, none⟩) k k] W2 (ResC 21 k (fun i => .int .i32 (rs i : Int)) W2)) := hcl
      clear hcl
      have hmk1 := make26 m hm
      have hmk2 := make24 m (by omega)
      refine seq_var (fun K hK => ?_)
      have HK7 : Hid _ := hK
      clear hK
      go_wp2_with (go_at_call 4; refine HC.out.mono ?_; rintro e W3 ⟨b19, c19, rfl, hcap, hge, hrw, hbl⟩)
      refine HK7.out _ _ ?_
      clear HK7 K
      have HF : Hid (Rw W2 b16 21 k (vI32 rs) ∧ Below w.heap.size w W2 ∧ W2.heap.size ≤ b19 ∧ Rw W3 b19 21 k (fun i => .int .i32 (rs i : Int)) ∧ Below W2.heap.size W2 W3) := ⟨hr2, hbel, hge, hrw, hbl⟩
      clear hr2 hbel hge hrw hbl
      refine seq_var (fun K hK => ?_)
      have HK8 : Hid _ := hK
      clear hK
      go_wp2
      refine HK8.out _ _ ?_
      clear HK8 K
      refine seq_var (fun K hK => ?_)
      have HK9 : Hid _ := hK
      clear hK
      go_wp2
      refine HK9.out _ _ ?_
      clear HK9 K
      have hx := HX.out
      unfold At10 at hx
      obtain ⟨h1, h2, h3, h4, h5⟩ := HF.out
      have h1' := h1.below h5 h1.lt
      have l1 := h1.lt
      have l2 := h4.lt
      have hm26 := madeK W3 #[.int .i32 0, .int .i64 0, .int .i64 0, .int .i64 0, .int .i64 0, .int .i64 0] 6 m 30 rfl (by omega)
      have hm24 := Rw.ofIs (World.rowIs_made (W3.alloc (.cells (madeCells #[.int .i32 0, .int .i64 0, .int .i64 0, .int .i64 0, .int .i64 0, .int .i64 0] (m * 6)) 30)) (.int .i32 0) m 21)
      rw [World.size_alloc] at hm24
      have hb3 : Below w.heap.size w W3 := h2.trans (h5.mono h2.size)
      apply hx b16 b19 c19 W3.heap.size (W3.heap.size + 1) _ ⟨(hb3.alloc hb3.size _).alloc (by rw [World.size_alloc]; have := hb3.size; omega) _, (h1'.alloc _).alloc _, (h4.alloc _).alloc _, hm26.alloc _, hm24, ⟨hb, by omega, by omega, by omega⟩⟩
end Go.Proofs.Yboneofkt
