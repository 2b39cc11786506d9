/-
  The law: the marks of the elements.
-/
import Derived.Test.YboneofktLawJ
namespace Go.Proofs.Yboneofkt
open Go.RowKit

def At36 (p : Ps) (w : World) : Prop := ∀ (b19 c19 b31 c31 b33 b34 b39 c39 : Nat) (ss : Nat → Nat) (cv ct Bb Bz Bh Bk : Nat) (rv : Value) (BSf : Nat → Value) (w0 : World) (W : World), M25 p w b19 b31 b33 b34 b39 c39 ss cv ct Bb Bz Bh Bk rv BSf w0 W → ∀ (u0 u1 u2 u3 u4 u5 u6 u7 u8 u9 u10 u11 u12 u15 u16 u17 u18 u21 u22 u23 u24 u25 u26 u28 u29 u30 u32 u35 u36 u37 u38 u42 u43 u44 u45 u46 u47 u48 u49 u50 u51 u52 u53 u54 u55 u56 u57 u58 u59 u60 u61 u62 u63 u64 u65 u66 u67 u68 u69 u70 u71 u72 u73 u74 u75 u76 u77 u78 u79 u80 u81 u82 u83 u84 u85 u86 u87 u88 u89 u90 u91 u92 u93 u94 u95 u96 u97 u98 u99 u100 u101 u102 u103 u104 u105 u106 u107 u108 u109 u110 u111 u112 u113 u114 u115 u116 u117 u118 u119 u120 u121 u122 u123 u124 u125 u126 u127 u128 u129 u130 u131 u132 u133 u134 u135 u136 u137 u138 u139 u140 u141 u142 u143 u144 u145 u146 u147 u148 u149 u150 u151 u152 u153 u154 u155 u156 u157 u158 u159 u160 u161 u162 u163 u164 u165 u166 u167 u168 u169 u170 u171 u172 u173 u174 u175 u176 u177 u178 u179 u180 u181 u182 u183 u184 u185 u186 u187 u188 u189 u190 u191 u192 u193 u194 u195 u196 u197 u198 u199 u200 u201 u202 u203 u204 u205 u206 u207 u208 u209 u210 u211 u212 u213 u214 u215 u216 u217 u218 u219 u220 u221 u222 u223 u224 u225 u226 u227 u228 u229 u230 u231 u232 u233 u234 u235 u236 u237 u238 u239 u240 u241 u242 u243 u244 u245 u246 u247 u248 u249 u250 u251 u252 u253 u254 u255 u256 u257 u258 u259 u260 u261 u262 u263 u264 u265 u266 u267 u268 u269 u270 u271 u272 u273 u274 u275 u276 u277 u278 u279 u280 u281 u282 u283 u284 u285 u286 u287 u288 u289 u290 u291 u292 u293 u294 u295 u296 u297 u298 u299 u300 u301 u302 u303 u304 u305 u306 u307 u308 u309 u310 u311 u312 u313 u314 u315 u316 u317 u318 u319 u320 u321 u322 u323 u324 u325 u326 u327 u328 u329 u330 u331 u332 u333 u334 u335 u336 u337 u338 u339 u340 u341 u342 u343 u344 u345 u346 u347 u348 u349 u350 u351 u352 u353 u354 u355 u356 u357 u358 u359 u360 u361 u362 u363 u364 u365 u366 u367 u368 u369 u370 u371 u372 u373 u374 u375 u376 u377 u378 u379 u380 u381 u382 u383 u384 u385 u386 u387 u388 u389 u390 u391 u392 u393 u394 u395 u396 u397 u398 u399 u400 u401 u402 u403 u404 u405 u406 u407 u408 u409 u410 u411 u412 u413 u414 u415 u416 u417 u418 u419 u420 u421 u422 u423 u424 u425 u426 u427 u428 u429 u430 u431 u432 u433 u434 u435 u436 u437 u438 u439 u440 u441 u442 u443 u444 u445 u446 u447 u448 u449 u450 u451 u452 u453 u454 u455 u456 u457 u458 u459 u460 u461 u462 u463 u464 u465 u466 u467 u468 u469 u470 u471 u472 u473 u474 u475 u476 u477 u478 u479 u480 u481 u482 u483 u484 u485 u486 u487 u488 u489 u490 u491 u492 u493 u494 u495 u496 u497 u498 u499 u500 u501 u502 u503 u504 u505 u506 u507 u508 u509 u510 u511 u512 u513 u514 u515 u516 u517 u518 u519 u520 u521 u522 u523 u524 u525 u526 u527 u528 u529 u530 u531 u532 u533 u534 u535 u536 u537 u538 u539 u540 u541 u542 u543 u544 u545 u546 u547 u548 u549 u550 u551 u552 u553 u554 u555 u556 u557 u558 u559 u560 u561 u562 u563 u564 u565 u566 u567 u568 u569 u570 u571 u572 u573 u574 u575 u576 u577 u578 u579 u580 u581 u582 u583 u584 u585 u586 u587 u588 u589 u590 u591 u592 u593 u594 u595 u596 : Value),
    Code.wp Ybgt.prog (tlN 36 (Ybgt.f3.body.getD .skip)) (bodyPost Ybgt.prog Ybgt.f3 (Post w)) ⟨#[u0, u1, u2, u3, u4, u5, u6, u7, u8, u9, u10, u11, u12, .int .i64 (p.E : Int), .int .i64 (p.S : Int), u15, u16, u17, u18, .slice (some ⟨b19, 0, none⟩) p.n c19, .slice (some ⟨p.gb, 0, none⟩) p.m p.m, u21, u22, u23, u24, u25, u26, .int .i64 p.L, u28, u29, u30, .slice (some ⟨b31, 0, none⟩) p.E c31, u32, .slice (some ⟨b33, 0, none⟩) p.S p.S, .slice (some ⟨b34, 0, none⟩) p.S p.S, u35, u36, u37, u38, .slice (some ⟨b39, 0, none⟩) p.m c39, .pointer (some ⟨p.xb, 0, none⟩), .pointer (some ⟨ct, 0, none⟩), u42, u43, u44, u45, u46, u47, u48, u49, u50, u51, u52, u53, u54, u55, u56, u57, u58, u59, u60, u61, u62, u63, u64, u65, u66, u67, u68, u69, u70, u71, u72, u73, u74, u75, u76, u77, u78, u79, u80, u81, u82, u83, u84, u85, u86, u87, u88, u89, u90, u91, u92, u93, u94, u95, u96, u97, u98, u99, u100, u101, u102, u103, u104, u105, u106, u107, u108, u109, u110, u111, u112, u113, u114, u115, u116, u117, u118, u119, u120, u121, u122, u123, u124, u125, u126, u127, u128, u129, u130, u131, u132, u133, u134, u135, u136, u137, u138, u139, u140, u141, u142, u143, u144, u145, u146, u147, u148, u149, u150, u151, u152, u153, u154, u155, u156, u157, u158, u159, u160, u161, u162, u163, u164, u165, u166, u167, u168, u169, u170, u171, u172, u173, u174, u175, u176, u177, u178, u179, u180, u181, u182, u183, u184, u185, u186, u187, u188, u189, u190, u191, u192, u193, u194, u195, u196, u197, u198, u199, u200, u201, u202, u203, u204, u205, u206, u207, u208, u209, u210, u211, u212, u213, u214, u215, u216, u217, u218, u219, u220, u221, u222, u223, u224, u225, u226, u227, u228, u229, u230, u231, u232, u233, u234, u235, u236, u237, u238, u239, u240, u241, u242, u243, u244, u245, u246, u247, u248, u249, u250, u251, u252, u253, u254, u255, u256, u257, u258, u259, u260, u261, u262, u263, u264, u265, u266, u267, u268, u269, u270, u271, u272, u273, u274, u275, u276, u277, u278, u279, u280, u281, u282, u283, u284, u285, u286, u287, u288, u289, u290, u291, u292, u293, u294, u295, u296, u297, u298, u299, u300, u301, u302, u303, u304, u305, u306, u307, u308, u309, u310, u311, u312, u313, u314, u315, u316, u317, u318, u319, u320, u321, u322, u323, u324, u325, u326, u327, u328, u329, u330, u331, u332, u333, u334, u335, u336, u337, u338, u339, u340, u341, u342, u343, u344, u345, u346, u347, u348, u349, u350, u351, u352, u353, u354, u355, u356, u357, u358, u359, u360, u361, u362, u363, u364, u365, u366, u367, u368, u369, u370, u371, u372, u373, u374, u375, u376, u377, u378, u379, u380, u381, u382, u383, u384, u385, u386, u387, u388, u389, u390, u391, u392, u393, u394, u395, u396, u397, u398, u399, u400, u401, u402, u403, u404, u405, u406, u407, u408, u409, u410, u411, u412, u413, u414, u415, u416, u417, u418, u419, u420, u421, u422, u423, u424, u425, u426, u427, u428, u429, u430, u431, u432, u433, u434, u435, u436, u437, u438, u439, u440, u441, u442, u443, u444, u445, u446, u447, u448, u449, u450, u451, u452, u453, u454, u455, u456, u457, u458, u459, u460, u461, u462, u463, u464, u465, u466, u467, u468, u469, u470, u471, u472, u473, u474, u475, u476, u477, u478, u479, u480, u481, u482, u483, u484, u485, u486, u487, u488, u489, u490, u491, u492, u493, u494, u495, u496, u497, u498, u499, u500, u501, u502, u503, u504, u505, u506, u507, u508, u509, u510, u511, u512, u513, u514, u515, u516, u517, u518, u519, u520, u521, u522, u523, u524, u525, u526, u527, u528, u529, u530, u531, u532, u533, u534, u535, u536, u537, u538, u539, u540, u541, u542, u543, u544, u545, u546, u547, u548, u549, u550, u551, u552, u553, u554, u555, u556, u557, u558, u559, u560, u561, u562, u563, u564, u565, u566, u567, u568, u569, u570, u571, u572, u573, u574, u575, u576, u577, u578, u579, u580, u581, u582, u583, u584, u585, u586, u587, u588, u589, u590, u591, u592, u593, u594, u595, u596], []⟩ W

theorem inP_of {f : Nat → Nat} {a j l e : Nat} (h : f (a + j) = e) (hj : j < l) : inP f a l e = true := by
  unfold inP
  rw [List.any_eq_true]
  exact ⟨j, List.mem_range.2 hj, by simp [h]⟩
theorem MK_succ (L : Int) (f st ln : Nat → Nat) (mk : Nat → Int) (k e : Nat) : MK L f st ln mk (k + 1) e = if inP f (st k) (ln k) e then L + 1 + k else MK L f st ln mk k e := rfl

set_option maxHeartbeats 1000000 in
set_option maxRecDepth 200000 in
theorem lawK (p : Ps) (w : World) (HNEXT : At36 p w) : At34 p w := by
  unfold At34
  intro b19 c19 b31 c31 b33 b34 b39 c39 ss cv ct Bb Bz Bh Bk rv BSf w0 W hM u0 u1 u2 u3 u4 u5 u6 u7 u8 u9 u10 u11 u12 u15 u16 u17 u18 u21 u22 u23 u24 u25 u26 u28 u29 u30 u32 u35 u36 u37 u38 u42 u43 u44 u45 u46 u47 u48 u49 u50 u51 u52 u53 u54 u55 u56 u57 u58 u59 u60 u61 u62 u63 u64 u65 u66 u67 u68 u69 u70 u71 u72 u73 u74 u75 u76 u77 u78 u79 u80 u81 u82 u83 u84 u85 u86 u87 u88 u89 u90 u91 u92 u93 u94 u95 u96 u97 u98 u99 u100 u101 u102 u103 u104 u105 u106 u107 u108 u109 u110 u111 u112 u113 u114 u115 u116 u117 u118 u119 u120 u121 u122 u123 u124 u125 u126 u127 u128 u129 u130 u131 u132 u133 u134 u135 u136 u137 u138 u139 u140 u141 u142 u143 u144 u145 u146 u147 u148 u149 u150 u151 u152 u153 u154 u155 u156 u157 u158 u159 u160 u161 u162 u163 u164 u165 u166 u167 u168 u169 u170 u171 u172 u173 u174 u175 u176 u177 u178 u179 u180 u181 u182 u183 u184 u185 u186 u187 u188 u189 u190 u191 u192 u193 u194 u195 u196 u197 u198 u199 u200 u201 u202 u203 u204 u205 u206 u207 u208 u209 u210 u211 u212 u213 u214 u215 u216 u217 u218 u219 u220 u221 u222 u223 u224 u225 u226 u227 u228 u229 u230 u231 u232 u233 u234 u235 u236 u237 u238 u239 u240 u241 u242 u243 u244 u245 u246 u247 u248 u249 u250 u251 u252 u253 u254 u255 u256 u257 u258 u259 u260 u261 u262 u263 u264 u265 u266 u267 u268 u269 u270 u271 u272 u273 u274 u275 u276 u277 u278 u279 u280 u281 u282 u283 u284 u285 u286 u287 u288 u289 u290 u291 u292 u293 u294 u295 u296 u297 u298 u299 u300 u301 u302 u303 u304 u305 u306 u307 u308 u309 u310 u311 u312 u313 u314 u315 u316 u317 u318 u319 u320 u321 u322 u323 u324 u325 u326 u327 u328 u329 u330 u331 u332 u333 u334 u335 u336 u337 u338 u339 u340 u341 u342 u343 u344 u345 u346 u347 u348 u349 u350 u351 u352 u353 u354 u355 u356 u357 u358 u359 u360 u361 u362 u363 u364 u365 u366 u367 u368 u369 u370 u371 u372 u373 u374 u375 u376 u377 u378 u379 u380 u381 u382 u383 u384 u385 u386 u387 u388 u389 u390 u391 u392 u393 u394 u395 u396 u397 u398 u399 u400 u401 u402 u403 u404 u405 u406 u407 u408 u409 u410 u411 u412 u413 u414 u415 u416 u417 u418 u419 u420 u421 u422 u423 u424 u425 u426 u427 u428 u429 u430 u431 u432 u433 u434 u435 u436 u437 u438 u439 u440 u441 u442 u443 u444 u445 u446 u447 u448 u449 u450 u451 u452 u453 u454 u455 u456 u457 u458 u459 u460 u461 u462 u463 u464 u465 u466 u467 u468 u469 u470 u471 u472 u473 u474 u475 u476 u477 u478 u479 u480 u481 u482 u483 u484 u485 u486 u487 u488 u489 u490 u491 u492 u493 u494 u495 u496 u497 u498 u499 u500 u501 u502 u503 u504 u505 u506 u507 u508 u509 u510 u511 u512 u513 u514 u515 u516 u517 u518 u519 u520 u521 u522 u523 u524 u525 u526 u527 u528 u529 u530 u531 u532 u533 u534 u535 u536 u537 u538 u539 u540 u541 u542 u543 u544 u545 u546 u547 u548 u549 u550 u551 u552 u553 u554 u555 u556 u557 u558 u559 u560 u561 u562 u563 u564 u565 u566 u567 u568 u569 u570 u571 u572 u573 u574 u575 u576 u577 u578 u579 u580 u581 u582 u583 u584 u585 u586 u587 u588 u589 u590 u591 u592 u593 u594 u595 u596
  have HX : Hid (At36 p w) := HNEXT
  have HM : Hid (M25 p w b19 b31 b33 b34 b39 c39 ss cv ct Bb Bz Bh Bk rv BSf w0 W) := hM
  have HOK : Hid (Ok p) := hM.ok
  have hE := hM.ok.E
  have hm := hM.ok.m
  have hn := hM.ok.n
  have hL1 := hM.ok.L1
  have hL2 := hM.ok.L2
  have x15 := hM.n2.x15 hM.hI
  clear HNEXT hM
  conv => arg 2; whnf
  conv => arg 4; dsimp only
  refine seq_var (fun K hK => ?_)
  have HK34 : Hid _ := hK
  clear hK
  go_wp2
  go_loopw [56] (fun v56 wr => ∃ e : Nat, v56 = .int .i64 (e : Int) ∧ e ≤ p.E ∧ W = wr) (fun v56 _ => p.E - (intOf v56).toNat)
  case atStart => exact ⟨0, rfl, Nat.zero_le _, rfl⟩
  case round =>
    obtain ⟨e, rfl, heE, rfl⟩ := hrel
    by_cases hlt : e < p.E
    · have hlt' : (e : Int) < (p.E : Int) := by omega
      have c31' := HM.out.r31.cell hlt
      unfold vZ at c31'
      have HF : Hid (∀ g, -2147483648 ≤ MK p.L p.rs p.st p.ln p.mks g e ∧ MK p.L p.rs p.st p.ln p.mks g e ≤ p.L + g) := fun g => ⟨MK_ge hL1 HOK.out.mk1 g e hlt, MK_le HOK.out.mk2 g e hlt⟩
      go_wp2
      clear c31'
      go_loopw [508, 57] (fun v508 v57 wr => ∃ g : Nat, v508 = .int .i64 (g : Int) ∧ v57 = .int .i64 (MK p.L p.rs p.st p.ln p.mks g e) ∧ g ≤ p.m ∧ W = wr) (fun v508 _ _ => p.m - (intOf v508).toNat)
      case atStart => exact ⟨0, rfl, rfl, Nat.zero_le _, rfl⟩
      case round =>
        obtain ⟨g, rfl, rfl, hgm, rfl⟩ := hrel
        by_cases hg : g < p.m
        · have hg' : (g : Int) < (p.m : Int) := by omega
          obtain ⟨st, hst⟩ : ∃ st, st = p.st g := ⟨_, rfl⟩
          obtain ⟨en, hen⟩ : ∃ en, en = p.en g := ⟨_, rfl⟩
          have h1 := HOK.out.st g hg
          have h2 := HOK.out.en g hg
          have c3 := HM.out.gst hg
          have c4 := HM.out.gen hg
          rw [← hst] at h1 c3
          rw [← hen] at h1 h2 c4
          have HE : Hid (st = p.st g ∧ en = p.en g ∧ en - st = p.ln g) := ⟨hst, hen, by rw [hst, hen]; rfl⟩
          obtain ⟨mv, hmv⟩ : ∃ mv, mv = MK p.L p.rs p.st p.ln p.mks g e := ⟨_, rfl⟩
          have hmb := HF.out g
          rw [← hmv] at hmb
          rw [← hmv]
          have HMV : Hid (mv = MK p.L p.rs p.st p.ln p.mks g e) := hmv
          obtain ⟨hmb1, hmb2⟩ := hmb
          clear hst hen hmv
          go_wp2
          go_loopw [59, 57] (fun v59 v57 wr => ∃ j : Nat, v59 = .int .i64 ((st + j : Nat) : Int) ∧ v57 = .int .i64 mv ∧ st + j ≤ en ∧ inP p.rs st j e = false ∧ W = wr) (fun v59 _ _ => en - (intOf v59).toNat)
          case atStart => exact ⟨0, rfl, rfl, by omega, rfl, rfl⟩
          case round =>
            obtain ⟨j, rfl, rfl, hje, hin, rfl⟩ := hrel
            obtain ⟨i, hi⟩ : ∃ i, i = st + j := ⟨_, rfl⟩
            rw [← hi]
            rw [← hi] at hje
            by_cases hie : i < en
            · have hie' : (i : Int) < (en : Int) := by omega
              have c19' := HM.out.r19.cell (i := i) (by omega)
              unfold vI32 at c19'
              obtain ⟨x, hx⟩ : ∃ x, x = p.rs i := ⟨_, rfl⟩
              have hxE : x < p.E := by rw [hx]; exact HOK.out.rs i (by omega)
              rw [← hx] at c19'
              by_cases hxe : x = e
              · have hxe' : (x : Int) = (e : Int) := by omega
                have HMG : Hid (MK p.L p.rs p.st p.ln p.mks (g + 1) e = p.L + 1 + g) := by
                  rw [Hid, MK_succ, if_pos]
                  rw [← HE.out.1, ← HE.out.2.2]
                  exact inP_of (j := j) (by rw [← hi, ← hx]; exact hxe) (by omega)
                clear hx hi hin
                go_wp2
                go_roundw
                case rel => exact ⟨g + 1, by go_num, by rw [HMG.out], by omega, trivial⟩
                case measure => simp [intOf]; omega
              · have hxe' : ¬ (x : Int) = (e : Int) := by omega
                have HIN : Hid (inP p.rs st (j + 1) e = false) := by
                  rw [Hid, inP_succ, hin, ← hi, ← hx]
                  simp [hxe]
                have HI : Hid (i = st + j) := hi
                clear hx hi hin
                go_wp2
                go_roundw
                case rel => exact ⟨j + 1, by rw [HI.out]; go_num, rfl, by have := HI.out; omega, HIN.out, trivial⟩
                case measure => simp [intOf]; omega
            · have hie' : ¬ (i : Int) < (en : Int) := by omega
              have HMG : Hid (MK p.L p.rs p.st p.ln p.mks (g + 1) e = mv) := by
                rw [Hid, MK_succ, if_neg]
                · exact HMV.out.symm
                · rw [← HE.out.1, ← HE.out.2.2, show en - st = j by omega, hin]
                  simp
              clear hi hin
              go_wp2
              go_roundw
              case rel => exact ⟨g + 1, by go_num, by rw [HMG.out], by omega, trivial⟩
              case measure => simp [intOf]; omega
        · have hg' : ¬ (g : Int) < (p.m : Int) := by omega
          obtain rfl : g = p.m := by omega
          have cm := HM.out.n2.marks.cell hlt
          obtain ⟨mv, hmv⟩ : ∃ mv, mv = MK p.L p.rs p.st p.ln p.mks p.m e := ⟨_, rfl⟩
          rw [← hmv] at cm
          rw [← hmv]
          clear hmv
          go_wp2
          go_roundw
          case rel => exact ⟨e + 1, by go_num, by omega, trivial⟩
          case measure => simp [intOf]; omega
    · have hlt' : ¬ (e : Int) < (p.E : Int) := by omega
      have x9 := HM.out.n2.x9 HM.out.hI
      have x0 := HM.out.n2.x0 HM.out.hI
      have l5 := HM.out.l5
      have HE1 : Hid (Calls Ybgt.prog 7 #[.slice (some ⟨p.ob, 0, none⟩) p.m p.capo, .slice (some ⟨b39, 0, none⟩) p.m c39] W fun e w' => e = .returned (.bool true) ∧ ∃ q, w' = W.drewN q) := equal7 p.ob b39 p.m p.capo c39 (fun i => (p.ro i : Int)) W (by omega) (fun i hi => HM.out.rob.cell hi) (fun i hi => HM.out.r39.cell hi)
      have HE2 : Hid (∀ q, Calls Ybgt.prog 7 #[.slice (some ⟨p.rb, 0, none⟩) p.n p.n, .slice (some ⟨b19, 0, none⟩) p.n c19] (W.drewN q) fun e w' => e = .returned (.bool true) ∧ ∃ q', w' = (W.drewN q).drewN q') := fun q => equal7 p.rb b19 p.n p.n c19 (fun i => (p.rs i : Int)) (W.drewN q) (by omega) (fun i hi => HM.out.r16.cell hi) (fun i hi => HM.out.r19.cell hi)
      go_wp2
      refine HK34.out _ _ ?_
      clear HK34
      refine seq_var (fun K hK => ?_)
      have HK35 : Hid _ := hK
      clear hK
      go_wp2_with (first | (go_at_call 7; refine (HE2.out q).mono ?_; rintro e w' ⟨rfl, q', rfl⟩) | (go_at_call 7; refine HE1.out.mono ?_; rintro e w' ⟨rfl, q, rfl⟩))
      refine HK35.out _ _ ?_
      clear HK35 K
      have hx := HX.out
      unfold At36 at hx
      apply hx _ c19 _ c31 _ _ _ _ _ _ _ _ _ _ _ _ _ _ _ (HM.out.frame (below_drewN (Below.refl _ _) (q + q')))
end Go.Proofs.Yboneofkt
