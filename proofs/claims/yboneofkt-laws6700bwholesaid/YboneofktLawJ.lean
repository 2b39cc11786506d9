/-
  The law: each session's gets by size.
-/
import Derived.Test.YboneofktLawI
namespace Go.Proofs.Yboneofkt
open Go.RowKit

def At34 (p : Ps) (w : World) : Prop := ∀ (b19 c19 b31 c31 b33 b34 b39 c39 : Nat) (ss : Nat → Nat) (cv ct Bb Bz Bh Bk : Nat) (rv : Value) (BSf : Nat → Value) (w0 : World) (W : World), M25 p w b19 b31 b33 b34 b39 c39 ss cv ct Bb Bz Bh Bk rv BSf w0 W → ∀ (u0 u1 u2 u3 u4 u5 u6 u7 u8 u9 u10 u11 u12 u15 u16 u17 u18 u21 u22 u23 u24 u25 u26 u28 u29 u30 u32 u35 u36 u37 u38 u42 u43 u44 u45 u46 u47 u48 u49 u50 u51 u52 u53 u54 u55 u56 u57 u58 u59 u60 u61 u62 u63 u64 u65 u66 u67 u68 u69 u70 u71 u72 u73 u74 u75 u76 u77 u78 u79 u80 u81 u82 u83 u84 u85 u86 u87 u88 u89 u90 u91 u92 u93 u94 u95 u96 u97 u98 u99 u100 u101 u102 u103 u104 u105 u106 u107 u108 u109 u110 u111 u112 u113 u114 u115 u116 u117 u118 u119 u120 u121 u122 u123 u124 u125 u126 u127 u128 u129 u130 u131 u132 u133 u134 u135 u136 u137 u138 u139 u140 u141 u142 u143 u144 u145 u146 u147 u148 u149 u150 u151 u152 u153 u154 u155 u156 u157 u158 u159 u160 u161 u162 u163 u164 u165 u166 u167 u168 u169 u170 u171 u172 u173 u174 u175 u176 u177 u178 u179 u180 u181 u182 u183 u184 u185 u186 u187 u188 u189 u190 u191 u192 u193 u194 u195 u196 u197 u198 u199 u200 u201 u202 u203 u204 u205 u206 u207 u208 u209 u210 u211 u212 u213 u214 u215 u216 u217 u218 u219 u220 u221 u222 u223 u224 u225 u226 u227 u228 u229 u230 u231 u232 u233 u234 u235 u236 u237 u238 u239 u240 u241 u242 u243 u244 u245 u246 u247 u248 u249 u250 u251 u252 u253 u254 u255 u256 u257 u258 u259 u260 u261 u262 u263 u264 u265 u266 u267 u268 u269 u270 u271 u272 u273 u274 u275 u276 u277 u278 u279 u280 u281 u282 u283 u284 u285 u286 u287 u288 u289 u290 u291 u292 u293 u294 u295 u296 u297 u298 u299 u300 u301 u302 u303 u304 u305 u306 u307 u308 u309 u310 u311 u312 u313 u314 u315 u316 u317 u318 u319 u320 u321 u322 u323 u324 u325 u326 u327 u328 u329 u330 u331 u332 u333 u334 u335 u336 u337 u338 u339 u340 u341 u342 u343 u344 u345 u346 u347 u348 u349 u350 u351 u352 u353 u354 u355 u356 u357 u358 u359 u360 u361 u362 u363 u364 u365 u366 u367 u368 u369 u370 u371 u372 u373 u374 u375 u376 u377 u378 u379 u380 u381 u382 u383 u384 u385 u386 u387 u388 u389 u390 u391 u392 u393 u394 u395 u396 u397 u398 u399 u400 u401 u402 u403 u404 u405 u406 u407 u408 u409 u410 u411 u412 u413 u414 u415 u416 u417 u418 u419 u420 u421 u422 u423 u424 u425 u426 u427 u428 u429 u430 u431 u432 u433 u434 u435 u436 u437 u438 u439 u440 u441 u442 u443 u444 u445 u446 u447 u448 u449 u450 u451 u452 u453 u454 u455 u456 u457 u458 u459 u460 u461 u462 u463 u464 u465 u466 u467 u468 u469 u470 u471 u472 u473 u474 u475 u476 u477 u478 u479 u480 u481 u482 u483 u484 u485 u486 u487 u488 u489 u490 u491 u492 u493 u494 u495 u496 u497 u498 u499 u500 u501 u502 u503 u504 u505 u506 u507 u508 u509 u510 u511 u512 u513 u514 u515 u516 u517 u518 u519 u520 u521 u522 u523 u524 u525 u526 u527 u528 u529 u530 u531 u532 u533 u534 u535 u536 u537 u538 u539 u540 u541 u542 u543 u544 u545 u546 u547 u548 u549 u550 u551 u552 u553 u554 u555 u556 u557 u558 u559 u560 u561 u562 u563 u564 u565 u566 u567 u568 u569 u570 u571 u572 u573 u574 u575 u576 u577 u578 u579 u580 u581 u582 u583 u584 u585 u586 u587 u588 u589 u590 u591 u592 u593 u594 u595 u596 : Value),
    Code.wp Ybgt.prog (tlN 34 (Ybgt.f3.body.getD .skip)) (bodyPost Ybgt.prog Ybgt.f3 (Post w)) ⟨#[u0, u1, u2, u3, u4, u5, u6, u7, u8, u9, u10, u11, u12, .int .i64 (p.E : Int), .int .i64 (p.S : Int), u15, u16, u17, u18, .slice (some ⟨b19, 0, none⟩) p.n c19, .slice (some ⟨p.gb, 0, none⟩) p.m p.m, u21, u22, u23, u24, u25, u26, .int .i64 p.L, u28, u29, u30, .slice (some ⟨b31, 0, none⟩) p.E c31, u32, .slice (some ⟨b33, 0, none⟩) p.S p.S, .slice (some ⟨b34, 0, none⟩) p.S p.S, u35, u36, u37, u38, .slice (some ⟨b39, 0, none⟩) p.m c39, .pointer (some ⟨p.xb, 0, none⟩), .pointer (some ⟨ct, 0, none⟩), u42, u43, u44, u45, u46, u47, u48, u49, u50, u51, u52, u53, u54, u55, u56, u57, u58, u59, u60, u61, u62, u63, u64, u65, u66, u67, u68, u69, u70, u71, u72, u73, u74, u75, u76, u77, u78, u79, u80, u81, u82, u83, u84, u85, u86, u87, u88, u89, u90, u91, u92, u93, u94, u95, u96, u97, u98, u99, u100, u101, u102, u103, u104, u105, u106, u107, u108, u109, u110, u111, u112, u113, u114, u115, u116, u117, u118, u119, u120, u121, u122, u123, u124, u125, u126, u127, u128, u129, u130, u131, u132, u133, u134, u135, u136, u137, u138, u139, u140, u141, u142, u143, u144, u145, u146, u147, u148, u149, u150, u151, u152, u153, u154, u155, u156, u157, u158, u159, u160, u161, u162, u163, u164, u165, u166, u167, u168, u169, u170, u171, u172, u173, u174, u175, u176, u177, u178, u179, u180, u181, u182, u183, u184, u185, u186, u187, u188, u189, u190, u191, u192, u193, u194, u195, u196, u197, u198, u199, u200, u201, u202, u203, u204, u205, u206, u207, u208, u209, u210, u211, u212, u213, u214, u215, u216, u217, u218, u219, u220, u221, u222, u223, u224, u225, u226, u227, u228, u229, u230, u231, u232, u233, u234, u235, u236, u237, u238, u239, u240, u241, u242, u243, u244, u245, u246, u247, u248, u249, u250, u251, u252, u253, u254, u255, u256, u257, u258, u259, u260, u261, u262, u263, u264, u265, u266, u267, u268, u269, u270, u271, u272, u273, u274, u275, u276, u277, u278, u279, u280, u281, u282, u283, u284, u285, u286, u287, u288, u289, u290, u291, u292, u293, u294, u295, u296, u297, u298, u299, u300, u301, u302, u303, u304, u305, u306, u307, u308, u309, u310, u311, u312, u313, u314, u315, u316, u317, u318, u319, u320, u321, u322, u323, u324, u325, u326, u327, u328, u329, u330, u331, u332, u333, u334, u335, u336, u337, u338, u339, u340, u341, u342, u343, u344, u345, u346, u347, u348, u349, u350, u351, u352, u353, u354, u355, u356, u357, u358, u359, u360, u361, u362, u363, u364, u365, u366, u367, u368, u369, u370, u371, u372, u373, u374, u375, u376, u377, u378, u379, u380, u381, u382, u383, u384, u385, u386, u387, u388, u389, u390, u391, u392, u393, u394, u395, u396, u397, u398, u399, u400, u401, u402, u403, u404, u405, u406, u407, u408, u409, u410, u411, u412, u413, u414, u415, u416, u417, u418, u419, u420, u421, u422, u423, u424, u425, u426, u427, u428, u429, u430, u431, u432, u433, u434, u435, u436, u437, u438, u439, u440, u441, u442, u443, u444, u445, u446, u447, u448, u449, u450, u451, u452, u453, u454, u455, u456, u457, u458, u459, u460, u461, u462, u463, u464, u465, u466, u467, u468, u469, u470, u471, u472, u473, u474, u475, u476, u477, u478, u479, u480, u481, u482, u483, u484, u485, u486, u487, u488, u489, u490, u491, u492, u493, u494, u495, u496, u497, u498, u499, u500, u501, u502, u503, u504, u505, u506, u507, u508, u509, u510, u511, u512, u513, u514, u515, u516, u517, u518, u519, u520, u521, u522, u523, u524, u525, u526, u527, u528, u529, u530, u531, u532, u533, u534, u535, u536, u537, u538, u539, u540, u541, u542, u543, u544, u545, u546, u547, u548, u549, u550, u551, u552, u553, u554, u555, u556, u557, u558, u559, u560, u561, u562, u563, u564, u565, u566, u567, u568, u569, u570, u571, u572, u573, u574, u575, u576, u577, u578, u579, u580, u581, u582, u583, u584, u585, u586, u587, u588, u589, u590, u591, u592, u593, u594, u595, u596], []⟩ W

/-- two rows of the same numbers, in whatever order, sort to the same. -/
theorem sort_perm (xs ys : List Int) (h : xs.Perm ys) : Go.Sort.sort Go.Sort.ltInt xs.toArray = Go.Sort.sort Go.Sort.ltInt ys.toArray := by
  have ha : ∀ x y : Int, Go.Sort.ltInt x y = false → Go.Sort.ltInt y x = false → x = y := fun x y h1 h2 => by simp only [Go.Sort.ltInt, decide_eq_false_iff_not] at h1 h2; omega
  obtain ⟨p1, s1⟩ := Go.Sort.sort_sorts Go.Sort.ltInt Go.Sort.swo_ltInt xs.toArray
  obtain ⟨p2, s2⟩ := Go.Sort.sort_sorts Go.Sort.ltInt Go.Sort.swo_ltInt ys.toArray
  have e1 := Go.Sort.sorted_unique_holds Go.Sort.swo_ltInt ha xs.toArray _ p1 s1
  have hl := h.length_eq
  have p3 : Go.Sort.PermIn 0 xs.toArray.size xs.toArray (Go.Sort.sort Go.Sort.ltInt ys.toArray) := by
    obtain ⟨q1, q2, q3⟩ := p2
    have q1' : (Go.Sort.sort Go.Sort.ltInt ys.toArray).size = xs.toArray.size := by rw [q1]; simp [hl]
    refine ⟨q1', fun i hi => ?_, ?_⟩
    · have hi' : xs.toArray.size ≤ i := by omega
      rw [getElem!_neg _ i (by omega), getElem!_neg _ i (by omega)]
    · rw [← q1', Array.extract_size, q1'] 
      rw [← q1, Array.extract_size] at q3
      have e : (ys.toArray.extract 0 (Go.Sort.sort Go.Sort.ltInt ys.toArray).size).toList = ys := by rw [q1, Array.extract_size]
      have e' : (xs.toArray.extract 0 xs.toArray.size).toList = xs := by rw [Array.extract_size]
      rw [e] at q3
      rw [e']
      exact q3.trans h.symm
  have s3 : Go.Sort.SortedIn Go.Sort.ltInt 0 xs.toArray.size (Go.Sort.sort Go.Sort.ltInt ys.toArray) := by
    intro i j h1 h2 h3
    exact s2 i j h1 h2 (by simp at h3 ⊢; omega)
  have e2 := Go.Sort.sorted_unique_holds Go.Sort.swo_ltInt ha xs.toArray _ p3 s3
  have := e1.trans e2.symm
  exact Array.toList_inj.1 this
theorem sort_size (xs : List Int) : (Go.Sort.sort Go.Sort.ltInt xs.toArray).size = xs.length := by
  have := (Go.Sort.sort_sorts Go.Sort.ltInt Go.Sort.swo_ltInt xs.toArray).1.1
  simpa using this

def ints (ks : List Nat) : List Int := ks.map fun (k : Nat) => (k : Int)
theorem ints_get (ks : List Nat) (i : Nat) (h : i < ks.length) : ((ints ks).toArray)[i]! = ((ks[i]! : Nat) : Int) := by
  rw [getElem!_pos _ i (by simp [ints]; exact h), getElem!_pos ks i h]
  simp [ints]
theorem rh_of {w : World} {b n : Nat} {ks : List Nat} (h : Rw w b 21 n (fun i => .int .i32 ((ks[i]! : Nat) : Int))) (hn : ks.length = n) : RH w b (ints ks).toArray := by
  obtain ⟨c, h1, h2, h3⟩ := h
  have hs : (ints ks).toArray.size = n := by simp [ints, hn]
  refine ⟨c, h1, by omega, fun i hi => ?_⟩
  rw [h3 i (by omega), ints_get ks i (by omega)]

theorem Only.toBelow {b B : Nat} {w w' : World} (h : Only b w w') (hB : B ≤ b) (hw : B ≤ w.heap.size) : Below B w w' := ⟨h.os, h.tape, h.output, h.size, fun k hk => h.block k (by omega) (by omega)⟩

set_option maxHeartbeats 8000000 in
set_option maxRecDepth 200000 in
theorem lawJ (p : Ps) (w : World) (HNEXT : At34 p w) : At32 p w := by
  unfold At32
  intro b19 c19 b31 c31 b33 b34 b39 c39 ss cv ct Bb Bz Bh Bk rv BSf w0 W hM u0 u1 u2 u3 u4 u5 u6 u7 u8 u9 u10 u11 u12 u15 u16 u17 u18 u21 u22 u23 u24 u25 u26 u28 u29 u30 u32 u35 u36 u37 u38 u42 u43 u44 u45 u46 u47 u48 u49 u50 u51 u52 u53 u54 u55 u56 u57 u58 u59 u60 u61 u62 u63 u64 u65 u66 u67 u68 u69 u70 u71 u72 u73 u74 u75 u76 u77 u78 u79 u80 u81 u82 u83 u84 u85 u86 u87 u88 u89 u90 u91 u92 u93 u94 u95 u96 u97 u98 u99 u100 u101 u102 u103 u104 u105 u106 u107 u108 u109 u110 u111 u112 u113 u114 u115 u116 u117 u118 u119 u120 u121 u122 u123 u124 u125 u126 u127 u128 u129 u130 u131 u132 u133 u134 u135 u136 u137 u138 u139 u140 u141 u142 u143 u144 u145 u146 u147 u148 u149 u150 u151 u152 u153 u154 u155 u156 u157 u158 u159 u160 u161 u162 u163 u164 u165 u166 u167 u168 u169 u170 u171 u172 u173 u174 u175 u176 u177 u178 u179 u180 u181 u182 u183 u184 u185 u186 u187 u188 u189 u190 u191 u192 u193 u194 u195 u196 u197 u198 u199 u200 u201 u202 u203 u204 u205 u206 u207 u208 u209 u210 u211 u212 u213 u214 u215 u216 u217 u218 u219 u220 u221 u222 u223 u224 u225 u226 u227 u228 u229 u230 u231 u232 u233 u234 u235 u236 u237 u238 u239 u240 u241 u242 u243 u244 u245 u246 u247 u248 u249 u250 u251 u252 u253 u254 u255 u256 u257 u258 u259 u260 u261 u262 u263 u264 u265 u266 u267 u268 u269 u270 u271 u272 u273 u274 u275 u276 u277 u278 u279 u280 u281 u282 u283 u284 u285 u286 u287 u288 u289 u290 u291 u292 u293 u294 u295 u296 u297 u298 u299 u300 u301 u302 u303 u304 u305 u306 u307 u308 u309 u310 u311 u312 u313 u314 u315 u316 u317 u318 u319 u320 u321 u322 u323 u324 u325 u326 u327 u328 u329 u330 u331 u332 u333 u334 u335 u336 u337 u338 u339 u340 u341 u342 u343 u344 u345 u346 u347 u348 u349 u350 u351 u352 u353 u354 u355 u356 u357 u358 u359 u360 u361 u362 u363 u364 u365 u366 u367 u368 u369 u370 u371 u372 u373 u374 u375 u376 u377 u378 u379 u380 u381 u382 u383 u384 u385 u386 u387 u388 u389 u390 u391 u392 u393 u394 u395 u396 u397 u398 u399 u400 u401 u402 u403 u404 u405 u406 u407 u408 u409 u410 u411 u412 u413 u414 u415 u416 u417 u418 u419 u420 u421 u422 u423 u424 u425 u426 u427 u428 u429 u430 u431 u432 u433 u434 u435 u436 u437 u438 u439 u440 u441 u442 u443 u444 u445 u446 u447 u448 u449 u450 u451 u452 u453 u454 u455 u456 u457 u458 u459 u460 u461 u462 u463 u464 u465 u466 u467 u468 u469 u470 u471 u472 u473 u474 u475 u476 u477 u478 u479 u480 u481 u482 u483 u484 u485 u486 u487 u488 u489 u490 u491 u492 u493 u494 u495 u496 u497 u498 u499 u500 u501 u502 u503 u504 u505 u506 u507 u508 u509 u510 u511 u512 u513 u514 u515 u516 u517 u518 u519 u520 u521 u522 u523 u524 u525 u526 u527 u528 u529 u530 u531 u532 u533 u534 u535 u536 u537 u538 u539 u540 u541 u542 u543 u544 u545 u546 u547 u548 u549 u550 u551 u552 u553 u554 u555 u556 u557 u558 u559 u560 u561 u562 u563 u564 u565 u566 u567 u568 u569 u570 u571 u572 u573 u574 u575 u576 u577 u578 u579 u580 u581 u582 u583 u584 u585 u586 u587 u588 u589 u590 u591 u592 u593 u594 u595 u596
  have HX : Hid (At34 p w) := HNEXT
  have HM0 : Hid (M25 p w b19 b31 b33 b34 b39 c39 ss cv ct Bb Bz Bh Bk rv BSf w0 W) := hM
  have HOK : Hid (Ok p) := hM.ok
  have hS := hM.ok.S
  have hm := hM.ok.m
  have hL1 := hM.ok.L1
  have hL2 := hM.ok.L2
  have hcap := hM.cap
  clear HNEXT hM
  conv => arg 2; whnf
  conv => arg 4; dsimp only
  refine seq_var (fun K hK => ?_)
  have HK32 : Hid _ := hK
  clear hK
  go_wp2
  go_loopw [50] (fun v50 wr => ∃ s : Nat, v50 = .int .i64 (s : Int) ∧ s ≤ p.S ∧ M25 p w b19 b31 b33 b34 b39 c39 ss cv ct Bb Bz Bh Bk rv BSf w0 wr) (fun v50 _ => p.S - (intOf v50).toNat)
  case atStart => exact ⟨0, rfl, Nat.zero_le _, HM0.out⟩
  case round =>
    clear HM0
    rename World => W2
    obtain ⟨s, rfl, hsS, hM⟩ := hrel
    by_cases hlt : s < p.S
    · have hlt' : (s : Int) < (p.S : Int) := by omega
      have c2 : W2.cell? ⟨ct, 2, none⟩ = some (.slice (some ⟨Bb, 0, none⟩) p.S p.S) := by rw [cell_of hM.n2.ctb]; rfl
      have cb := hM.n2.bs.cell hlt
      have c34 := hM.r34.cell hlt
      have c33 := hM.r33.cell hlt
      unfold vI64 at c34 c33
      obtain ⟨c, hc⟩ : ∃ c, c = p.cn s := ⟨_, rfl⟩
      obtain ⟨fi, hfi⟩ : ∃ fi, fi = p.fi s := ⟨_, rfl⟩
      rw [← hc] at c34
      rw [← hfi] at c33
      have q1 := HOK.out.fi s hlt
      rw [← hc, ← hfi] at q1
      have hsg := hM.seg s hlt
      rw [← hc] at hsg
      have HM : Hid (M25 p w b19 b31 b33 b34 b39 c39 ss cv ct Bb Bz Bh Bk rv BSf w0 W2) := hM
      have HEQ : Hid (c = p.cn s ∧ fi = p.fi s) := ⟨hc, hfi⟩
      by_cases hc0 : c = 0
      · have hc0' : ((c : Int) == 0) = true := by simp [hc0]
        have hc0'' : (c : Int) = 0 := by omega
        rw [hsg.2 hc0] at cb
        clear hM hsg hc hfi
        go_wp2
        go_roundw
        case rel => exact ⟨s + 1, by go_num, by omega, HM.out⟩
        case measure => simp [intOf]; omega
      · have hc0' : ¬ (c : Int) = 0 := by omega
        obtain ⟨b, cap, ds, hv, hb1, hb2, hb3, hperm, hpw, hrow⟩ := hsg.1 (by omega)
        rw [hv] at cb
        rw [← hc] at cb hrow
        have hdl : ds.length = c := by rw [hperm.length_eq, seg_len, hc]
        have hdm : ∀ i, i < c → ds[i]! < p.m := by
          intro i hi
          rw [getElem!_pos ds i (by omega)]
          have := hperm.subset (List.getElem_mem (by omega : i < ds.length))
          unfold Ps.seg at this
          obtain ⟨j, hj, e⟩ := List.mem_map.1 this
          rw [← e]
          have := List.mem_range.1 hj
          exact HOK.out.ro _ (by omega)
        have HD : Hid (∀ i, i < c → ds[i]! < p.m) := hdm
        have HPW : Hid (ds.Pairwise (fun x y => (p.sz y : Int) ≤ (p.sz x : Int))) := hpw
        have HPE : Hid (ds.Perm (p.seg s) ∧ ds.length = c) := ⟨hperm, hdl⟩
        have HRO : Hid (Rw W2 b 21 c (fun i => .int .i32 ((ds[i]! : Nat) : Int))) := hrow
        clear hM hsg hc hfi hperm hpw hrow hdl hdm hv
        go_wp2
        go_loopw [52] (fun v52 wr => ∃ i : Nat, v52 = .int .i64 (i : Int) ∧ i ≤ c ∧ W2 = wr) (fun v52 _ => c - (intOf v52).toNat)
        case atStart => exact ⟨0, rfl, Nat.zero_le _, rfl⟩
        case round =>
          obtain ⟨i, rfl, hic, rfl⟩ := hrel
          by_cases hi : i < c
          · have hi' : (i : Int) < (c : Int) := by omega
            obtain ⟨x, hx⟩ : ∃ x, x = ds[i]! := ⟨_, rfl⟩
            have hxm := HD.out i hi
            have cx := HRO.out.cell hi
            rw [← hx] at hxm cx
            have hx1 : ¬ (x : Int) < 0 := by omega
            have hx2 : ¬ (x : Int) ≥ (p.m : Int) := by omega
            have hx3 : ¬ (p.m : Int) ≤ (x : Int) := by omega
            clear hx
            go_wp2
            go_roundw
            case rel => exact ⟨i + 1, by go_num, by omega, trivial⟩
            case measure => simp [intOf]; omega
          · have hi' : ¬ (i : Int) < (c : Int) := by omega
            have z3 : W2.cell? ⟨ct, 3, none⟩ = some (.slice (some ⟨Bz, 0, none⟩) p.m p.m) := by rw [cell_of HM.out.n2.ctb]; rfl
            have HZ3 : Hid (W2.cell? ⟨ct, 3, none⟩ = some (.slice (some ⟨Bz, 0, none⟩) p.m p.m)) := z3
            have HLT : Hid (ct < W2.heap.size ∧ Bz < W2.heap.size ∧ b < W2.heap.size) := ⟨block_lt HM.out.n2.ctb, HM.out.n2.zs.lt, HRO.out.lt⟩
            clear z3
            go_wp2
            go_loopw [53] (fun v53 wr => ∃ i : Nat, v53 = .int .i64 (i : Int) ∧ 1 ≤ i ∧ i ≤ c ∧ Below W2.heap.size W2 wr) (fun v53 _ => c - (intOf v53).toNat)
            case atStart => exact ⟨1, rfl, Nat.le_refl _, by omega, Below.refl _ _⟩
            case round =>
              rename World => W4
              obtain ⟨k, rfl, hk1, hkc, hbel⟩ := hrel
              have hrow4 := HRO.out.below hbel HLT.out.2.2
              by_cases hk : k < c
              · have hk' : (k : Int) < (c : Int) := by omega
                obtain ⟨km, hkm⟩ : ∃ km : Nat, (k : Int) - 1 = km := ⟨k - 1, by omega⟩
                have hkm1 : km < c := by omega
                have z3 := (hbel.cell (p := ⟨ct, 3, none⟩) HLT.out.1).trans HZ3.out
                obtain ⟨x, hx⟩ : ∃ x, x = ds[km]! := ⟨_, rfl⟩
                obtain ⟨y, hy⟩ : ∃ y, y = ds[k]! := ⟨_, rfl⟩
                have hxm := HD.out km hkm1
                have hym := HD.out k hk
                have cx := hrow4.cell hkm1
                have cy := hrow4.cell hk
                have hzr := HM.out.n2.zs.below hbel HLT.out.2.1
                rw [← hx] at hxm cx
                rw [← hy] at hym cy
                have zx := hzr.cell hxm
                have zy := hzr.cell hym
                have hle : (p.sz y : Int) ≤ (p.sz x : Int) := by
                  have h := HPW.out
                  rw [List.pairwise_iff_getElem] at h
                  have hl := HPE.out.2
                  have := h km k (by omega) (by omega) (by omega)
                  rw [hx, hy, getElem!_pos ds km (by omega), getElem!_pos ds k (by omega)]
                  exact this
                have hsx : (p.sz x : Int) ≤ 65536 := by
                  have h1 := dcn_le p.rs (p.st x) (p.ln x)
                  have h2 := HOK.out.en x hxm
                  have h3 := HOK.out.n
                  have h4 : p.sz x ≤ p.ln x := h1
                  have h5 : p.ln x ≤ p.en x := Nat.sub_le _ _
                  omega
                obtain ⟨zx', hzx'⟩ : ∃ z, z = p.sz x := ⟨_, rfl⟩
                obtain ⟨zy', hzy'⟩ : ∃ z, z = p.sz y := ⟨_, rfl⟩
                rw [← hzx'] at zx hle hsx
                rw [← hzy'] at zy hle
                have hnl : ¬ (zx' : Int) < (zy' : Int) := by omega
                have HB : Hid (Below W2.heap.size W2 W4) := hbel
                clear hx hy hzx' hzy' hrow4 hzr hbel
                go_wp2
                go_quiet (fail)
                go_wp2
                go_roundw
                case rel => exact ⟨k + 1, by go_num, by omega, by omega, HB.out.trans ((below_drewN (Below.refl _ _) _).mono HB.out.size)⟩
                case measure => simp [intOf]; omega
              · have hk' : ¬ (k : Int) < (c : Int) := by omega
                have hs4 := hbel.size
                have HC1 : Hid (Calls Ybgt.prog 4 #[.slice (some ⟨b, 0, none⟩) c cap] W4 (ResC 21 c (fun i => .int .i32 ((ds[i]! : Nat) : Int)) W4)) := clone4 b 0 c cap (fun i => ((ds[i]! : Nat) : Int)) W4 (by omega) (fun i hi => by rw [Nat.zero_add]; exact hrow4.cell hi)
                have HB4 : Hid (Below W2.heap.size W2 W4) := hbel
                clear hrow4 hbel
                go_upto_region 116 with (go_at_call 4; refine HC1.out.mono ?_; rintro e W5 ⟨bp, cp, rfl, hcp, hgp, hrp, hbp⟩)
                have HP5 : Hid (W4.heap.size ≤ bp ∧ RH W5 bp (ints ds).toArray ∧ Below W4.heap.size W4 W5) := ⟨hgp, rh_of hrp HPE.out.2, hbp⟩
                have hsz : (ints ds).toArray.size = c := by simp [ints, HPE.out.2]
                have HS1 : Hid (Calls Ybgt.prog 8 #[.slice (some ⟨bp, 0, none⟩) c cp] W5 fun e w' => e = .returned (.tuple #[]) ∧ RH w' bp (Go.Sort.sort Go.Sort.ltInt (ints ds).toArray) ∧ Only bp W5 w') := sort_any bp c cp _ W5 hsz (by omega) HP5.out.2.1
                clear hgp hrp hbp hcp HC1
                go_upto_region 117 with (go_at_call 8; refine HS1.out.mono ?_; rintro e W6 ⟨rfl, hrh6, hon6⟩)
                have HB6 : Hid (Below W2.heap.size W2 W6) := by
                  have h5 := HP5.out
                  have hb5 : Below W2.heap.size W2 W5 := HB4.out.trans (h5.2.2.mono hs4)
                  exact hb5.trans (hon6.toBelow (by omega) hb5.size)
                have HR6 : Hid (RH W6 bp (Go.Sort.sort Go.Sort.ltInt (ints ds).toArray)) := hrh6
                have hM6 := HM.out.frame HB6.out
                have d33 := hM6.r33.cell hlt
                have d34 := hM6.r34.cell hlt
                unfold vI64 at d33 d34
                rw [← HEQ.out.2] at d33
                rw [← HEQ.out.1] at d34
                have HRC : Hid (∀ i, i < c → W6.cell? ⟨b39, fi + i, none⟩ = some (.int .i32 (p.ro (fi + i) : Int))) := fun i hi => hM6.r39.cell (by omega)
                have HL6 : Hid (b33 < W6.heap.size ∧ b34 < W6.heap.size) := ⟨hM6.r33.lt, hM6.r34.lt⟩
                obtain ⟨fe, hfe⟩ : ∃ fe : Nat, (fi : Int) + (c : Int) = fe := ⟨fi + c, by omega⟩
                have hfe1 : fi ≤ fe := by omega
                have hfe2 : fe ≤ c39 := by omega
                have hfe3 : (fi : Int) ≤ (fe : Int) := by omega
                have hfe4 : (fe : Int) ≤ (c39 : Int) := by omega
                have hfe5 : ¬ c39 - fi = 0 := by omega
                have hfe6 : ¬ c39 = fi := by omega
                have hfe7 : fe - fi = c := by omega
                have hw64 := wrapN fe (by omega)
                clear hrh6 hon6 hM6 c33 c34 c2 cb HS1
                go_region_held3 (fun w' => w'.cell? ⟨b33, s, none⟩ = some (.int .i64 (fi : Int)) ∧ w'.cell? ⟨b34, s, none⟩ = some (.int .i64 (c : Int))) (first | exact ⟨k0, k1⟩ | go_keep) (first | (go_at_call 4; refine (clone4 b39 fi c _ (fun i => (p.ro (fi + i) : Int)) _ (by omega) (by exact HRC.out)).mono ?_; rintro r W7 ⟨bq, cq, rfl, hcq, hgq, hrq, hbq⟩; have k0 := (hbq.cell (p := ⟨b33, s, none⟩) HL6.out.1).trans d33; have k1 := (hbq.cell (p := ⟨b34, s, none⟩) HL6.out.2).trans d34))
                rename (_ ∧ _) => hHeld
                clear hHeld
                have HQ7 : Hid (W6.heap.size ≤ bq ∧ RH W7 bq (ints (p.seg s)).toArray ∧ Below W6.heap.size W6 W7) := by
                  refine ⟨hgq, rh_of (n := c) (hrq.congr (fun i hi => ?_)) (by rw [seg_len, HEQ.out.1]), ⟨hbq.os, hbq.tape, hbq.output, hbq.size, hbq.block⟩⟩
                  rw [seg_get p s i (by rw [← HEQ.out.1]; exact hi), HEQ.out.2]
                have hsz2 : (ints (p.seg s)).toArray.size = c := by simp [ints, seg_len, HEQ.out.1]
                have HS2 : Hid (Calls Ybgt.prog 8 #[.slice (some ⟨bq, 0, none⟩) c cq] W7 fun e w' => e = .returned (.tuple #[]) ∧ RH w' bq (Go.Sort.sort Go.Sort.ltInt (ints (p.seg s)).toArray) ∧ Only bq W7 w') := sort_any bq c cq _ W7 hsz2 (by omega) HQ7.out.2.1
                clear k0 k1 hgq hrq hbq hcq d33 d34 HRC
                go_upto_region 119 with (go_at_call 8; refine HS2.out.mono ?_; rintro e W8 ⟨rfl, hrh8, hon8⟩)
                have HE8 : Hid (Below W2.heap.size W2 W8 ∧ Calls Ybgt.prog 7 #[.slice (some ⟨bp, 0, none⟩) c cp, .slice (some ⟨bq, 0, none⟩) c cq] W8 fun e w' => e = .returned (.bool true) ∧ ∃ q, w' = W8.drewN q) := by
                  obtain ⟨h1, h2, h3⟩ := HQ7.out
                  have hb6 := HB6.out
                  have hb7 : Below W2.heap.size W2 W7 := hb6.trans (h3.mono hb6.size)
                  have l6 := HR6.out.lt
                  have hp7 := HR6.out.below h3
                  have hp8 := hp7.only hon8 (by omega)
                  have hsp := sort_perm (ints ds) (ints (p.seg s)) (HPE.out.1.map _)
                  rw [hsp] at hp8
                  have hz : (Go.Sort.sort Go.Sort.ltInt (ints (p.seg s)).toArray).size = c := by rw [sort_size]; simp [ints, seg_len, HEQ.out.1]
                  refine ⟨hb7.trans (hon8.toBelow (by have := hb6.size; omega) hb7.size), ?_⟩
                  exact equal7 bp bq c cp cq (fun i => (Go.Sort.sort Go.Sort.ltInt (ints (p.seg s)).toArray)[i]!) W8 (by omega) (fun i hi => hp8.cell (by omega)) (fun i hi => hrh8.cell (by omega))
                clear hrh8 hon8 HS2
                go_wp2_with (go_at_call 7; refine HE8.out.2.mono ?_; rintro e w' ⟨rfl, q, rfl⟩)
                go_roundw
                case rel => exact ⟨s + 1, by go_num, by omega, (HM.out.frame HE8.out.1).frame (below_drewN (Below.refl _ _) _)⟩
                case measure => simp [intOf]; omega
    · have hlt' : ¬ (s : Int) < (p.S : Int) := by omega
      have HM : Hid (M25 p w b19 b31 b33 b34 b39 c39 ss cv ct Bb Bz Bh Bk rv BSf w0 W2) := hM
      have x16 := hM.n2.x16
      have x15 := hM.n2.x15 hM.hI
      clear hM
      go_wp2
      refine HK32.out _ _ ?_
      clear HK32
      refine seq_var (fun K hK => ?_)
      have HK33 : Hid _ := hK
      clear hK
      go_wp2
      refine HK33.out _ _ ?_
      clear HK33 K
      have hx := HX.out
      unfold At34 at hx
      apply hx _ c19 _ c31 _ _ _ _ _ _ _ _ _ _ _ _ _ _ _ HM.out
end Go.Proofs.Yboneofkt
