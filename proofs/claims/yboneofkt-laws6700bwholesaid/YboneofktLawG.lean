/-
  The law: the sizes.
-/
import Derived.Test.YboneofktLawF
namespace Go.Proofs.Yboneofkt
open Go.RowKit

section
variable {p : Ps} {w : World} {b19 b31 b33 b34 b39 c39 : Nat} {ss : Nat → Nat} {cv ct Bb Bz Bh Bk : Nat} {rv : Value} {BSf : Nat → Value} {w0 W W' : World}
theorem M25.frame (h : M25 p w b19 b31 b33 b34 b39 c39 ss cv ct Bb Bz Bh Bk rv BSf w0 W) (hb : Below W.heap.size W W') : M25 p w b19 b31 b33 b34 b39 c39 ss cv ct Bb Bz Bh Bk rv BSf w0 W' :=
  { ok := h.ok
    bel := h.bel.trans (hb.mono h.bel.size)
    n2 := h.n2.frame hb
    hI := h.hI
    seg := fun s hs => ⟨fun hc => ((h.seg s hs).1 hc).kp ((Kp.refl _ W).below hb), (h.seg s hs).2⟩
    r16 := h.r16.below hb h.r16.lt
    r19 := h.r19.below hb h.r19.lt
    r20 := h.r20.below hb h.r20.lt
    r31 := h.r31.below hb h.r31.lt
    r33 := h.r33.below hb h.r33.lt
    r34 := h.r34.below hb h.r34.lt
    rob := h.rob.below hb h.rob.lt
    r39 := h.r39.below hb h.r39.lt
    l5 := (hb.cell (p := ⟨p.lb, 5, none⟩) (Nat.lt_of_lt_of_le h.hI.lts.1 h.n2.kp.size)).trans h.l5
    lt := h.lt
    cap := h.cap }
theorem M25.gst (h : M25 p w b19 b31 b33 b34 b39 c39 ss cv ct Bb Bz Bh Bk rv BSf w0 W) {g : Nat} (hg : g < p.m) : W.cell? ⟨p.gb, g * 6 + 3, none⟩ = some (.int .i64 (p.st g : Int)) := by
  rw [h.r20.cell (i := g * 6 + 3) (by omega)]
  unfold fGs
  rw [show (g * 6 + 3) / 6 = g by omega, show (g * 6 + 3) % 6 = 3 by omega]
  rfl
theorem M25.gen (h : M25 p w b19 b31 b33 b34 b39 c39 ss cv ct Bb Bz Bh Bk rv BSf w0 W) {g : Nat} (hg : g < p.m) : W.cell? ⟨p.gb, g * 6 + 4, none⟩ = some (.int .i64 (p.en g : Int)) := by
  rw [h.r20.cell (i := g * 6 + 4) (by omega)]
  unfold fGs
  rw [show (g * 6 + 4) / 6 = g by omega, show (g * 6 + 4) % 6 = 4 by omega]
  rfl
end

def At27 (p : Ps) (w : World) : Prop := ∀ (b19 c19 b31 c31 b33 b34 b39 c39 : Nat) (ss : Nat → Nat) (cv ct Bb Bz Bh Bk : Nat) (rv : Value) (BSf : Nat → Value) (w0 : World) (W : World), M25 p w b19 b31 b33 b34 b39 c39 ss cv ct Bb Bz Bh Bk rv BSf w0 W → ∀ (u0 u1 u2 u3 u4 u5 u6 u7 u8 u9 u10 u11 u12 u15 u16 u17 u18 u21 u22 u23 u24 u25 u26 u28 u29 u30 u32 u35 u36 u37 u38 u42 u43 u44 u45 u46 u48 u49 u50 u51 u52 u53 u54 u55 u56 u57 u58 u59 u60 u61 u62 u63 u64 u65 u66 u67 u68 u69 u70 u71 u72 u73 u74 u75 u76 u77 u78 u79 u80 u81 u82 u83 u84 u85 u86 u87 u88 u89 u90 u91 u92 u93 u94 u95 u96 u97 u98 u99 u100 u101 u102 u103 u104 u105 u106 u107 u108 u109 u110 u111 u112 u113 u114 u115 u116 u117 u118 u119 u120 u121 u122 u123 u124 u125 u126 u127 u128 u129 u130 u131 u132 u133 u134 u135 u136 u137 u138 u139 u140 u141 u142 u143 u144 u145 u146 u147 u148 u149 u150 u151 u152 u153 u154 u155 u156 u157 u158 u159 u160 u161 u162 u163 u164 u165 u166 u167 u168 u169 u170 u171 u172 u173 u174 u175 u176 u177 u178 u179 u180 u181 u182 u183 u184 u185 u186 u187 u188 u189 u190 u191 u192 u193 u194 u195 u196 u197 u198 u199 u200 u201 u202 u203 u204 u205 u206 u207 u208 u209 u210 u211 u212 u213 u214 u215 u216 u217 u218 u219 u220 u221 u222 u223 u224 u225 u226 u227 u228 u229 u230 u231 u232 u233 u234 u235 u236 u237 u238 u239 u240 u241 u242 u243 u244 u245 u246 u247 u248 u249 u250 u251 u252 u253 u254 u255 u256 u257 u258 u259 u260 u261 u262 u263 u264 u265 u266 u267 u268 u269 u270 u271 u272 u273 u274 u275 u276 u277 u278 u279 u280 u281 u282 u283 u284 u285 u286 u287 u288 u289 u290 u291 u292 u293 u294 u295 u296 u297 u298 u299 u300 u301 u302 u303 u304 u305 u306 u307 u308 u309 u310 u311 u312 u313 u314 u315 u316 u317 u318 u319 u320 u321 u322 u323 u324 u325 u326 u327 u328 u329 u330 u331 u332 u333 u334 u335 u336 u337 u338 u339 u340 u341 u342 u343 u344 u345 u346 u347 u348 u349 u350 u351 u352 u353 u354 u355 u356 u357 u358 u359 u360 u361 u362 u363 u364 u365 u366 u367 u368 u369 u370 u371 u372 u373 u374 u375 u376 u377 u378 u379 u380 u381 u382 u383 u384 u385 u386 u387 u388 u389 u390 u391 u392 u393 u394 u395 u396 u397 u398 u399 u400 u401 u402 u403 u404 u405 u406 u407 u408 u409 u410 u411 u412 u413 u414 u415 u416 u417 u418 u419 u420 u421 u422 u423 u424 u425 u426 u427 u428 u429 u430 u431 u432 u433 u434 u435 u436 u437 u438 u439 u440 u441 u442 u443 u444 u445 u446 u447 u448 u449 u450 u451 u452 u453 u454 u455 u456 u457 u458 u459 u460 u461 u462 u463 u464 u465 u466 u467 u468 u469 u470 u471 u472 u473 u474 u475 u476 u477 u478 u479 u480 u481 u482 u483 u484 u485 u486 u487 u488 u489 u490 u491 u492 u493 u494 u495 u496 u497 u498 u499 u500 u501 u502 u503 u504 u505 u506 u507 u508 u509 u510 u511 u512 u513 u514 u515 u516 u517 u518 u519 u520 u521 u522 u523 u524 u525 u526 u527 u528 u529 u530 u531 u532 u533 u534 u535 u536 u537 u538 u539 u540 u541 u542 u543 u544 u545 u546 u547 u548 u549 u550 u551 u552 u553 u554 u555 u556 u557 u558 u559 u560 u561 u562 u563 u564 u565 u566 u567 u568 u569 u570 u571 u572 u573 u574 u575 u576 u577 u578 u579 u580 u581 u582 u583 u584 u585 u586 u587 u588 u589 u590 u591 u592 u593 u594 u595 u596 : Value),
    Code.wp Ybgt.prog (tlN 27 (Ybgt.f3.body.getD .skip)) (bodyPost Ybgt.prog Ybgt.f3 (Post w)) ⟨#[u0, u1, u2, u3, u4, u5, u6, u7, u8, u9, u10, u11, u12, .int .i64 (p.E : Int), .int .i64 (p.S : Int), u15, u16, u17, u18, .slice (some ⟨b19, 0, none⟩) p.n c19, .slice (some ⟨p.gb, 0, none⟩) p.m p.m, u21, u22, u23, u24, u25, u26, .int .i64 p.L, u28, u29, u30, .slice (some ⟨b31, 0, none⟩) p.E c31, u32, .slice (some ⟨b33, 0, none⟩) p.S p.S, .slice (some ⟨b34, 0, none⟩) p.S p.S, u35, u36, u37, u38, .slice (some ⟨b39, 0, none⟩) p.m c39, .pointer (some ⟨p.xb, 0, none⟩), .pointer (some ⟨ct, 0, none⟩), u42, u43, u44, u45, u46, .slice none 0 0, u48, u49, u50, u51, u52, u53, u54, u55, u56, u57, u58, u59, u60, u61, u62, u63, u64, u65, u66, u67, u68, u69, u70, u71, u72, u73, u74, u75, u76, u77, u78, u79, u80, u81, u82, u83, u84, u85, u86, u87, u88, u89, u90, u91, u92, u93, u94, u95, u96, u97, u98, u99, u100, u101, u102, u103, u104, u105, u106, u107, u108, u109, u110, u111, u112, u113, u114, u115, u116, u117, u118, u119, u120, u121, u122, u123, u124, u125, u126, u127, u128, u129, u130, u131, u132, u133, u134, u135, u136, u137, u138, u139, u140, u141, u142, u143, u144, u145, u146, u147, u148, u149, u150, u151, u152, u153, u154, u155, u156, u157, u158, u159, u160, u161, u162, u163, u164, u165, u166, u167, u168, u169, u170, u171, u172, u173, u174, u175, u176, u177, u178, u179, u180, u181, u182, u183, u184, u185, u186, u187, u188, u189, u190, u191, u192, u193, u194, u195, u196, u197, u198, u199, u200, u201, u202, u203, u204, u205, u206, u207, u208, u209, u210, u211, u212, u213, u214, u215, u216, u217, u218, u219, u220, u221, u222, u223, u224, u225, u226, u227, u228, u229, u230, u231, u232, u233, u234, u235, u236, u237, u238, u239, u240, u241, u242, u243, u244, u245, u246, u247, u248, u249, u250, u251, u252, u253, u254, u255, u256, u257, u258, u259, u260, u261, u262, u263, u264, u265, u266, u267, u268, u269, u270, u271, u272, u273, u274, u275, u276, u277, u278, u279, u280, u281, u282, u283, u284, u285, u286, u287, u288, u289, u290, u291, u292, u293, u294, u295, u296, u297, u298, u299, u300, u301, u302, u303, u304, u305, u306, u307, u308, u309, u310, u311, u312, u313, u314, u315, u316, u317, u318, u319, u320, u321, u322, u323, u324, u325, u326, u327, u328, u329, u330, u331, u332, u333, u334, u335, u336, u337, u338, u339, u340, u341, u342, u343, u344, u345, u346, u347, u348, u349, u350, u351, u352, u353, u354, u355, u356, u357, u358, u359, u360, u361, u362, u363, u364, u365, u366, u367, u368, u369, u370, u371, u372, u373, u374, u375, u376, u377, u378, u379, u380, u381, u382, u383, u384, u385, u386, u387, u388, u389, u390, u391, u392, u393, u394, u395, u396, u397, u398, u399, u400, u401, u402, u403, u404, u405, u406, u407, u408, u409, u410, u411, u412, u413, u414, u415, u416, u417, u418, u419, u420, u421, u422, u423, u424, u425, u426, u427, u428, u429, u430, u431, u432, u433, u434, u435, u436, u437, u438, u439, u440, u441, u442, u443, u444, u445, u446, u447, u448, u449, u450, u451, u452, u453, u454, u455, u456, u457, u458, u459, u460, u461, u462, u463, u464, u465, u466, u467, u468, u469, u470, u471, u472, u473, u474, u475, u476, u477, u478, u479, u480, u481, u482, u483, u484, u485, u486, u487, u488, u489, u490, u491, u492, u493, u494, u495, u496, u497, u498, u499, u500, u501, u502, u503, u504, u505, u506, u507, u508, u509, u510, u511, u512, u513, u514, u515, u516, u517, u518, u519, u520, u521, u522, u523, u524, u525, u526, u527, u528, u529, u530, u531, u532, u533, u534, u535, u536, u537, u538, u539, u540, u541, u542, u543, u544, u545, u546, u547, u548, u549, u550, u551, u552, u553, u554, u555, u556, u557, u558, u559, u560, u561, u562, u563, u564, u565, u566, u567, u568, u569, u570, u571, u572, u573, u574, u575, u576, u577, u578, u579, u580, u581, u582, u583, u584, u585, u586, u587, u588, u589, u590, u591, u592, u593, u594, u595, u596], []⟩ W

set_option maxHeartbeats 4000000 in
set_option maxRecDepth 200000 in
theorem lawG (p : Ps) (w : World) (HNEXT : At27 p w) : At25 p w := by
  unfold At25
  intro b19 c19 b31 c31 b33 b34 b39 c39 ss cv ct Bb Bz Bh Bk rv BSf w0 W hM u0 u1 u2 u3 u4 u5 u6 u7 u8 u9 u10 u11 u15 u16 u17 u18 u21 u22 u23 u24 u25 u26 u28 u29 u30 u32 u35 u36 u37 u38 u42 u43 u44 u45 u46 u47 u48 u49 u50 u51 u52 u53 u54 u55 u56 u57 u58 u59 u60 u61 u62 u63 u64 u65 u66 u67 u68 u69 u70 u71 u72 u73 u74 u75 u76 u77 u78 u79 u80 u81 u82 u83 u84 u85 u86 u87 u88 u89 u90 u91 u92 u93 u94 u95 u96 u97 u98 u99 u100 u101 u102 u103 u104 u105 u106 u107 u108 u109 u110 u111 u112 u113 u114 u115 u116 u117 u118 u119 u120 u121 u122 u123 u124 u125 u126 u127 u128 u129 u130 u131 u132 u133 u134 u135 u136 u137 u138 u139 u140 u141 u142 u143 u144 u145 u146 u147 u148 u149 u150 u151 u152 u153 u154 u155 u156 u157 u158 u159 u160 u161 u162 u163 u164 u165 u166 u167 u168 u169 u170 u171 u172 u173 u174 u175 u176 u177 u178 u179 u180 u181 u182 u183 u184 u185 u186 u187 u188 u189 u190 u191 u192 u193 u194 u195 u196 u197 u198 u199 u200 u201 u202 u203 u204 u205 u206 u207 u208 u209 u210 u211 u212 u213 u214 u215 u216 u217 u218 u219 u220 u221 u222 u223 u224 u225 u226 u227 u228 u229 u230 u231 u232 u233 u234 u235 u236 u237 u238 u239 u240 u241 u242 u243 u244 u245 u246 u247 u248 u249 u250 u251 u252 u253 u254 u255 u256 u257 u258 u259 u260 u261 u262 u263 u264 u265 u266 u267 u268 u269 u270 u271 u272 u273 u274 u275 u276 u277 u278 u279 u280 u281 u282 u283 u284 u285 u286 u287 u288 u289 u290 u291 u292 u293 u294 u295 u296 u297 u298 u299 u300 u301 u302 u303 u304 u305 u306 u307 u308 u309 u310 u311 u312 u313 u314 u315 u316 u317 u318 u319 u320 u321 u322 u323 u324 u325 u326 u327 u328 u329 u330 u331 u332 u333 u334 u335 u336 u337 u338 u339 u340 u341 u342 u343 u344 u345 u346 u347 u348 u349 u350 u351 u352 u353 u354 u355 u356 u357 u358 u359 u360 u361 u362 u363 u364 u365 u366 u367 u368 u369 u370 u371 u372 u373 u374 u375 u376 u377 u378 u379 u380 u381 u382 u383 u384 u385 u386 u387 u388 u389 u390 u391 u392 u393 u394 u395 u396 u397 u398 u399 u400 u401 u402 u403 u404 u405 u406 u407 u408 u409 u410 u411 u412 u413 u414 u415 u416 u417 u418 u419 u420 u421 u422 u423 u424 u425 u426 u427 u428 u429 u430 u431 u432 u433 u434 u435 u436 u437 u438 u439 u440 u441 u442 u443 u444 u445 u446 u447 u448 u449 u450 u451 u452 u453 u454 u455 u456 u457 u458 u459 u460 u461 u462 u463 u464 u465 u466 u467 u468 u469 u470 u471 u472 u473 u474 u475 u476 u477 u478 u479 u480 u481 u482 u483 u484 u485 u486 u487 u488 u489 u490 u491 u492 u493 u494 u495 u496 u497 u498 u499 u500 u501 u502 u503 u504 u505 u506 u507 u508 u509 u510 u511 u512 u513 u514 u515 u516 u517 u518 u519 u520 u521 u522 u523 u524 u525 u526 u527 u528 u529 u530 u531 u532 u533 u534 u535 u536 u537 u538 u539 u540 u541 u542 u543 u544 u545 u546 u547 u548 u549 u550 u551 u552 u553 u554 u555 u556 u557 u558 u559 u560 u561 u562 u563 u564 u565 u566 u567 u568 u569 u570 u571 u572 u573 u574 u575 u576 u577 u578 u579 u580 u581 u582 u583 u584 u585 u586 u587 u588 u589 u590 u591 u592 u593 u594 u595 u596
  have HX : Hid (At27 p w) := HNEXT
  have HM0 : Hid (M25 p w b19 b31 b33 b34 b39 c39 ss cv ct Bb Bz Bh Bk rv BSf w0 W) := hM
  have HOK : Hid (Ok p) := hM.ok
  have hm := hM.ok.m
  have hn := hM.ok.n
  have hE := hM.ok.E
  clear HNEXT hM
  conv => arg 2; whnf
  conv => arg 4; dsimp only
  refine seq_var (fun K hK => ?_)
  have HK25 : Hid _ := hK
  clear hK
  go_wp2
  go_loopw [271] (fun v271 wr => ∃ k : Nat, v271 = .int .i64 (k : Int) ∧ k ≤ p.m ∧ M25 p w b19 b31 b33 b34 b39 c39 ss cv ct Bb Bz Bh Bk rv BSf w0 wr) (fun v271 _ => p.m - (intOf v271).toNat)
  case atStart => exact ⟨0, rfl, Nat.zero_le _, HM0.out⟩
  case round =>
    clear HM0
    rename World => W2
    obtain ⟨k, rfl, hkm, hM⟩ := hrel
    by_cases hlt : k < p.m
    · have hlt' : (k : Int) < (p.m : Int) := by omega
      have hA := hM.frame (below_alloc W2 (.cells #[.bool false, .bool false, .bool false, .bool false, .bool false, .bool false, .bool false, .bool false, .bool false, .bool false, .bool false, .bool false, .bool false, .bool false, .bool false, .bool false] 55))
      obtain ⟨st, hst⟩ : ∃ st, st = p.st k := ⟨_, rfl⟩
      obtain ⟨en, hen⟩ : ∃ en, en = p.en k := ⟨_, rfl⟩
      have h1 := HOK.out.st k hlt
      have h2 := HOK.out.en k hlt
      have c3 := hA.gst hlt
      rw [← hst] at h1 c3
      rw [← hen] at h1 h2
      have HE : Hid (st = p.st k ∧ en = p.en k) := ⟨hst, hen⟩
      have HM : Hid (M25 p w b19 b31 b33 b34 b39 c39 ss cv ct Bb Bz Bh Bk rv BSf w0 W2) := hM
      clear hM hst hen hA
      go_wp2
      clear c3
      go_loopw [45, 44] (fun v45 v44 wr => ∃ j : Nat, v45 = .int .i64 ((st + j : Nat) : Int) ∧ v44 = .int .i32 (dcn p.rs st j : Int) ∧ st + j ≤ en ∧ Rw wr W2.heap.size 55 16 (fun e => .bool (inP p.rs st j e)) ∧ Below W2.heap.size W2 wr) (fun v45 _ _ => en - (intOf v45).toNat)
      case atStart =>
        refine ⟨0, rfl, rfl, by omega, ?_, below_alloc W2 _⟩
        refine ⟨_, heap_new W2 _, by simp, fun i hi => ?_⟩
        change _ = some (Value.bool (inP p.rs st 0 i))
        rw [inP_zero]
        rw [show (#[.bool false, .bool false, .bool false, .bool false, .bool false, .bool false, .bool false, .bool false, .bool false, .bool false, .bool false, .bool false, .bool false, .bool false, .bool false, .bool false] : Array Value) = Array.replicate 16 (.bool false) from rfl]
        simp [hi]
      case round =>
        rename World => W4
        obtain ⟨j, rfl, rfl, hje, hseen, hbel⟩ := hrel
        have hM4 := HM.out.frame hbel
        have c4 := hM4.gen hlt
        rw [← HE.out.2] at c4
        obtain ⟨d, hd⟩ : ∃ d, d = dcn p.rs st j := ⟨_, rfl⟩
        have hdl : d ≤ j := by rw [hd]; exact dcn_le _ _ _
        obtain ⟨i, hi⟩ : ∃ i, i = st + j := ⟨_, rfl⟩
        rw [← hi, ← hd]
        rw [← hi] at hje
        have hjn : j ≤ 65536 := by omega
        by_cases hlt2 : i < en
        · have hlt2' : (i : Int) < (en : Int) := by omega
          obtain ⟨e, he⟩ : ∃ e, e = p.rs i := ⟨_, rfl⟩
          have heE : e < p.E := by rw [he]; exact HOK.out.rs i (by omega)
          have he16 : e < 16 := by omega
          have c19' := hM4.r19.cell (i := i) (by omega)
          unfold vI32 at c19'
          rw [← he] at c19'
          have cse := hseen.cell he16
          have fse := hseen.frozen e
          by_cases hin : inP p.rs st j e = true
          · rw [hin] at cse
            have HS : Hid (Rw W4 W2.heap.size 55 16 (fun e => .bool (inP p.rs st (j + 1) e)) ∧ d = dcn p.rs st (j + 1)) := by
              refine ⟨hseen.congr (fun x _ => ?_), ?_⟩
              · rw [inP_succ, ← hi, ← he]
                by_cases hx : e = x
                · subst hx; simp [hin]
                · have : (e == x) = false := by simp [hx]
                  rw [this, Bool.or_false]
              · rw [dcn_succ, ← hi, ← he, if_pos hin]; exact hd
            have HI : Hid (i = st + j) := hi
            clear hseen hM4 hd hi he
            go_wp2
            go_roundw
            case rel => exact ⟨j + 1, by rw [HI.out]; go_num, by rw [HS.out.2], by have := HI.out; omega, HS.out.1, hbel⟩
            case measure => simp [intOf]; omega
          · have hin' : inP p.rs st j e = false := by simpa using hin
            rw [hin'] at cse
            have HS : Hid (Rw (W4.setCell ⟨W2.heap.size, e, none⟩ (.bool true)) W2.heap.size 55 16 (fun e => .bool (inP p.rs st (j + 1) e)) ∧ d + 1 = dcn p.rs st (j + 1)) := by
              refine ⟨(hseen.set e (.bool true)).congr (fun x _ => ?_), ?_⟩
              · rw [inP_succ, ← hi, ← he]
                by_cases hx : x = e
                · subst hx; simp
                · have : (e == x) = false := by simp [Ne.symm hx]
                  rw [if_neg hx, this, Bool.or_false]
              · rw [dcn_succ, ← hi, ← he, if_neg hin, hd]
            have HI : Hid (i = st + j) := hi
            have HB : Hid (Below W2.heap.size W2 (W4.setCell ⟨W2.heap.size, e, none⟩ (.bool true))) := hbel.setCell (Nat.le_refl _) _
            clear hseen hM4 hd hi he hbel
            go_wp2
            go_roundw
            case rel => exact ⟨j + 1, by rw [HI.out]; go_num, by rw [← HS.out.2]; go_num, by have := HI.out; omega, HS.out.1, HB.out⟩
            case measure => simp [intOf]; omega
        · have hlt2' : ¬ (i : Int) < (en : Int) := by omega
          have z3 : W4.cell? ⟨ct, 3, none⟩ = some (.slice (some ⟨Bz, 0, none⟩) p.m p.m) := by rw [cell_of hM4.n2.ctb]; rfl
          have zc := hM4.n2.zs.cell hlt
          have hde : p.sz k = d := by
            unfold Ps.sz Ps.ln
            rw [← HE.out.1, ← HE.out.2, hd, show en - st = j by omega]
          rw [hde] at zc
          have HM4 : Hid (M25 p w b19 b31 b33 b34 b39 c39 ss cv ct Bb Bz Bh Bk rv BSf w0 W4) := hM4
          clear hseen hM4 hd hi hbel
          go_wp2
          go_roundw
          case rel => exact ⟨k + 1, by go_num, by omega, HM4.out⟩
          case measure => simp [intOf]; omega
    · have hlt' : ¬ (k : Int) < (p.m : Int) := by omega
      have HM : Hid (M25 p w b19 b31 b33 b34 b39 c39 ss cv ct Bb Bz Bh Bk rv BSf w0 W2) := hM
      clear hM
      go_wp2
      refine HK25.out _ _ ?_
      clear HK25
      refine seq_var (fun K hK => ?_)
      have HK26 : Hid _ := hK
      clear hK
      go_wp2
      refine HK26.out _ _ ?_
      clear HK26 K
      have hx := HX.out
      unfold At27 at hx
      apply hx _ c19 _ c31 _ _ _ _ _ _ _ _ _ _ _ _ _ _ _ HM.out
end Go.Proofs.Yboneofkt
