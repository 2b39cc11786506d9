/-
  The law: the call of newContents.
-/
import Derived.Test.YboneofktLawE
namespace Go.Proofs.Yboneofkt
open Go.RowKit

def xCells (lb b32 ob b28 S m E c35 : Nat) (L : Int) : Array Value := #[.pointer (some ⟨lb, 0, none⟩), .slice (some ⟨b32, 0, none⟩) S S, .slice none 0 0, .slice none 0 0, .slice none 0 0, .slice none 0 0, .slice none 0 0, .slice none 0 0, .slice none 0 0, .slice (some ⟨ob, 0, none⟩) m c35, .slice none 0 0, .slice none 0 0, .slice none 0 0, .slice none 0 0, .slice none 0 0, .slice (some ⟨b28, 0, none⟩) E E, .int .i64 L, .int .i32 0, .int .i64 0, .int .i64 0, .int .i64 0, .slice none 0 0, .slice none 0 0, .int .i64 0, .int .i64 0, .slice none 0 0, .slice none 0 0, .slice none 0 0, .int .i64 0, .slice none 0 0, .slice none 0 0, .slice none 0 0, .slice none 0 0, .slice none 0 0]
def lCells (b20 b16 m n : Nat) : Array Value := #[.map none, .map none, .slice none 0 0, .slice none 0 0, .slice (some ⟨b20, 0, none⟩) m m, .slice (some ⟨b16, 0, none⟩) n n, .slice none 0 0]

theorem neq37 (b : Nat) (w : World) : (binOp .neq 37 (.pointer (some ⟨b, 0, none⟩)) (.pointer (some ⟨b, 0, none⟩))).run Ybgt.prog w = .ok (.bool false) w := by
  simp only [binOp]
  have h : (Op.equal 37 (.pointer (some ⟨b, 0, none⟩)) (.pointer (some ⟨b, 0, none⟩))).run Ybgt.prog w = .ok true w := by
    show (Op.equalIn (9999 + 1) 37 _ _).run Ybgt.prog w = _
    rw [Op.equalIn]
    simp [run_underlying Ybgt.underlying37, sameAddr]
  simp [h]

/-- newContents' parameters at the law. -/
def lawPs (lb xb b16 b20 b28 b32 ob c35 n m E S : Nat) (L : Int) (rs ss st en : Nat → Nat) (mks : Nat → Int) (rp : Nat → Option Addr) : Ps :=
  { xb := xb, lb := lb, gb := b20, rb := b16, sb := b32, mb := b28, ob := ob, n := n, m := m, E := E, S := S, capo := c35, L := L, rs := rs, st := st, en := en, cn := cnt ss m, fi := fst ss m, ro := fun i => (RO ss m S)[i]!, mks := mks, rp := rp, F := fun j => (xCells lb b32 ob b28 S m E c35 L)[j]?.getD default }

/-- the memory behind newContents. -/
structure M25 (p : Ps) (w : World) (b19 b31 b33 b34 b39 c39 : Nat) (ss : Nat → Nat) (cv ct Bb Bz Bh Bk : Nat) (rv : Value) (BSf : Nat → Value) (w0 W : World) : Prop where
  ok : Ok p
  bel : Below w.heap.size w W
  n2 : N2 p w0 cv ct Bb Bz Bh Bk rv BSf (MK p.L p.rs p.st p.ln p.mks p.m) p.sz (p.L + p.m) W
  hI : NIn p w0
  seg : ∀ s, s < p.S → (0 < p.cn s → SegP p w0 Bb ct W s (BSf s)) ∧ (p.cn s = 0 → BSf s = .slice none 0 0)
  r16 : Rw W p.rb 21 p.n (vI32 p.rs)
  r19 : Rw W b19 21 p.n (vI32 p.rs)
  r20 : Rw W p.gb 30 (p.m * 6) (fGs ss p.st p.en)
  r31 : Rw W b31 3 p.E (vZ p.mks)
  r33 : Rw W b33 3 p.S (vI64 p.fi)
  r34 : Rw W b34 3 p.S (vI64 p.cn)
  rob : Rw W p.ob 21 p.m (vI32 p.ro)
  r39 : Rw W b39 21 p.m (vI32 p.ro)
  l5 : W.cell? ⟨p.lb, 5, none⟩ = some (.slice (some ⟨p.rb, 0, none⟩) p.n p.n)
  lt : b39 < w0.heap.size ∧ w.heap.size ≤ w0.heap.size
  cap : p.m ≤ c39

def At25 (p : Ps) (w : World) : Prop := ∀ (b19 c19 b31 c31 b33 b34 b39 c39 : Nat) (ss : Nat → Nat) (cv ct Bb Bz Bh Bk : Nat) (rv : Value) (BSf : Nat → Value) (w0 : World) (W : World), M25 p w b19 b31 b33 b34 b39 c39 ss cv ct Bb Bz Bh Bk rv BSf w0 W → ∀ (u0 u1 u2 u3 u4 u5 u6 u7 u8 u9 u10 u11 u15 u16 u17 u18 u21 u22 u23 u24 u25 u26 u28 u29 u30 u32 u35 u36 u37 u38 u42 u43 u44 u45 u46 u47 u48 u49 u50 u51 u52 u53 u54 u55 u56 u57 u58 u59 u60 u61 u62 u63 u64 u65 u66 u67 u68 u69 u70 u71 u72 u73 u74 u75 u76 u77 u78 u79 u80 u81 u82 u83 u84 u85 u86 u87 u88 u89 u90 u91 u92 u93 u94 u95 u96 u97 u98 u99 u100 u101 u102 u103 u104 u105 u106 u107 u108 u109 u110 u111 u112 u113 u114 u115 u116 u117 u118 u119 u120 u121 u122 u123 u124 u125 u126 u127 u128 u129 u130 u131 u132 u133 u134 u135 u136 u137 u138 u139 u140 u141 u142 u143 u144 u145 u146 u147 u148 u149 u150 u151 u152 u153 u154 u155 u156 u157 u158 u159 u160 u161 u162 u163 u164 u165 u166 u167 u168 u169 u170 u171 u172 u173 u174 u175 u176 u177 u178 u179 u180 u181 u182 u183 u184 u185 u186 u187 u188 u189 u190 u191 u192 u193 u194 u195 u196 u197 u198 u199 u200 u201 u202 u203 u204 u205 u206 u207 u208 u209 u210 u211 u212 u213 u214 u215 u216 u217 u218 u219 u220 u221 u222 u223 u224 u225 u226 u227 u228 u229 u230 u231 u232 u233 u234 u235 u236 u237 u238 u239 u240 u241 u242 u243 u244 u245 u246 u247 u248 u249 u250 u251 u252 u253 u254 u255 u256 u257 u258 u259 u260 u261 u262 u263 u264 u265 u266 u267 u268 u269 u270 u271 u272 u273 u274 u275 u276 u277 u278 u279 u280 u281 u282 u283 u284 u285 u286 u287 u288 u289 u290 u291 u292 u293 u294 u295 u296 u297 u298 u299 u300 u301 u302 u303 u304 u305 u306 u307 u308 u309 u310 u311 u312 u313 u314 u315 u316 u317 u318 u319 u320 u321 u322 u323 u324 u325 u326 u327 u328 u329 u330 u331 u332 u333 u334 u335 u336 u337 u338 u339 u340 u341 u342 u343 u344 u345 u346 u347 u348 u349 u350 u351 u352 u353 u354 u355 u356 u357 u358 u359 u360 u361 u362 u363 u364 u365 u366 u367 u368 u369 u370 u371 u372 u373 u374 u375 u376 u377 u378 u379 u380 u381 u382 u383 u384 u385 u386 u387 u388 u389 u390 u391 u392 u393 u394 u395 u396 u397 u398 u399 u400 u401 u402 u403 u404 u405 u406 u407 u408 u409 u410 u411 u412 u413 u414 u415 u416 u417 u418 u419 u420 u421 u422 u423 u424 u425 u426 u427 u428 u429 u430 u431 u432 u433 u434 u435 u436 u437 u438 u439 u440 u441 u442 u443 u444 u445 u446 u447 u448 u449 u450 u451 u452 u453 u454 u455 u456 u457 u458 u459 u460 u461 u462 u463 u464 u465 u466 u467 u468 u469 u470 u471 u472 u473 u474 u475 u476 u477 u478 u479 u480 u481 u482 u483 u484 u485 u486 u487 u488 u489 u490 u491 u492 u493 u494 u495 u496 u497 u498 u499 u500 u501 u502 u503 u504 u505 u506 u507 u508 u509 u510 u511 u512 u513 u514 u515 u516 u517 u518 u519 u520 u521 u522 u523 u524 u525 u526 u527 u528 u529 u530 u531 u532 u533 u534 u535 u536 u537 u538 u539 u540 u541 u542 u543 u544 u545 u546 u547 u548 u549 u550 u551 u552 u553 u554 u555 u556 u557 u558 u559 u560 u561 u562 u563 u564 u565 u566 u567 u568 u569 u570 u571 u572 u573 u574 u575 u576 u577 u578 u579 u580 u581 u582 u583 u584 u585 u586 u587 u588 u589 u590 u591 u592 u593 u594 u595 u596 : Value),
    Code.wp Ybgt.prog (tlN 25 (Ybgt.f3.body.getD .skip)) (bodyPost Ybgt.prog Ybgt.f3 (Post w)) ⟨#[u0, u1, u2, u3, u4, u5, u6, u7, u8, u9, u10, u11, .bool false, .int .i64 (p.E : Int), .int .i64 (p.S : Int), u15, u16, u17, u18, .slice (some ⟨b19, 0, none⟩) p.n c19, .slice (some ⟨p.gb, 0, none⟩) p.m p.m, u21, u22, u23, u24, u25, u26, .int .i64 p.L, u28, u29, u30, .slice (some ⟨b31, 0, none⟩) p.E c31, u32, .slice (some ⟨b33, 0, none⟩) p.S p.S, .slice (some ⟨b34, 0, none⟩) p.S p.S, u35, u36, u37, u38, .slice (some ⟨b39, 0, none⟩) p.m c39, .pointer (some ⟨p.xb, 0, none⟩), .pointer (some ⟨ct, 0, none⟩), u42, u43, u44, u45, u46, u47, u48, u49, u50, u51, u52, u53, u54, u55, u56, u57, u58, u59, u60, u61, u62, u63, u64, u65, u66, u67, u68, u69, u70, u71, u72, u73, u74, u75, u76, u77, u78, u79, u80, u81, u82, u83, u84, u85, u86, u87, u88, u89, u90, u91, u92, u93, u94, u95, u96, u97, u98, u99, u100, u101, u102, u103, u104, u105, u106, u107, u108, u109, u110, u111, u112, u113, u114, u115, u116, u117, u118, u119, u120, u121, u122, u123, u124, u125, u126, u127, u128, u129, u130, u131, u132, u133, u134, u135, u136, u137, u138, u139, u140, u141, u142, u143, u144, u145, u146, u147, u148, u149, u150, u151, u152, u153, u154, u155, u156, u157, u158, u159, u160, u161, u162, u163, u164, u165, u166, u167, u168, u169, u170, u171, u172, u173, u174, u175, u176, u177, u178, u179, u180, u181, u182, u183, u184, u185, u186, u187, u188, u189, u190, u191, u192, u193, u194, u195, u196, u197, u198, u199, u200, u201, u202, u203, u204, u205, u206, u207, u208, u209, u210, u211, u212, u213, u214, u215, u216, u217, u218, u219, u220, u221, u222, u223, u224, u225, u226, u227, u228, u229, u230, u231, u232, u233, u234, u235, u236, u237, u238, u239, u240, u241, u242, u243, u244, u245, u246, u247, u248, u249, u250, u251, u252, u253, u254, u255, u256, u257, u258, u259, u260, u261, u262, u263, u264, u265, u266, u267, u268, u269, u270, u271, u272, u273, u274, u275, u276, u277, u278, u279, u280, u281, u282, u283, u284, u285, u286, u287, u288, u289, u290, u291, u292, u293, u294, u295, u296, u297, u298, u299, u300, u301, u302, u303, u304, u305, u306, u307, u308, u309, u310, u311, u312, u313, u314, u315, u316, u317, u318, u319, u320, u321, u322, u323, u324, u325, u326, u327, u328, u329, u330, u331, u332, u333, u334, u335, u336, u337, u338, u339, u340, u341, u342, u343, u344, u345, u346, u347, u348, u349, u350, u351, u352, u353, u354, u355, u356, u357, u358, u359, u360, u361, u362, u363, u364, u365, u366, u367, u368, u369, u370, u371, u372, u373, u374, u375, u376, u377, u378, u379, u380, u381, u382, u383, u384, u385, u386, u387, u388, u389, u390, u391, u392, u393, u394, u395, u396, u397, u398, u399, u400, u401, u402, u403, u404, u405, u406, u407, u408, u409, u410, u411, u412, u413, u414, u415, u416, u417, u418, u419, u420, u421, u422, u423, u424, u425, u426, u427, u428, u429, u430, u431, u432, u433, u434, u435, u436, u437, u438, u439, u440, u441, u442, u443, u444, u445, u446, u447, u448, u449, u450, u451, u452, u453, u454, u455, u456, u457, u458, u459, u460, u461, u462, u463, u464, u465, u466, u467, u468, u469, u470, u471, u472, u473, u474, u475, u476, u477, u478, u479, u480, u481, u482, u483, u484, u485, u486, u487, u488, u489, u490, u491, u492, u493, u494, u495, u496, u497, u498, u499, u500, u501, u502, u503, u504, u505, u506, u507, u508, u509, u510, u511, u512, u513, u514, u515, u516, u517, u518, u519, u520, u521, u522, u523, u524, u525, u526, u527, u528, u529, u530, u531, u532, u533, u534, u535, u536, u537, u538, u539, u540, u541, u542, u543, u544, u545, u546, u547, u548, u549, u550, u551, u552, u553, u554, u555, u556, u557, u558, u559, u560, u561, u562, u563, u564, u565, u566, u567, u568, u569, u570, u571, u572, u573, u574, u575, u576, u577, u578, u579, u580, u581, u582, u583, u584, u585, u586, u587, u588, u589, u590, u591, u592, u593, u594, u595, u596], []⟩ W

theorem ok_law {lb xb b16 b20 b28 b32 ob c35 n m E S : Nat} {L : Int} {rs ss st en : Nat → Nat} {mks : Nat → Int} {rp : Nat → Option Addr} (hn : n ≤ 65536) (hm : m ≤ 4096) (hE : E ≤ 16) (hS : S ≤ 5) (hss : ∀ g, ss g < S) (hrs : ∀ i, rs i < E) (hst : ∀ g, st g ≤ en g) (hen : ∀ g, en g ≤ n) (hc : m ≤ c35)
    (hL1 : -2147483648 ≤ L) (hL2 : L ≤ 2147483647) (hk1 : ∀ e, -2147483648 ≤ mks e) (hk2 : ∀ e, mks e ≤ L) : Ok (lawPs lb xb b16 b20 b28 b32 ob c35 n m E S L rs ss st en mks rp) :=
  { n := hn
    m := hm
    E := hE
    S := hS
    capo := hc
    rs := fun i _ => hrs i
    st := fun g _ => hst g
    en := fun g _ => hen g
    cn := fun s => Nat.le_trans (ros_len ss s m) hm
    fi := fun s hs => by
      have h1 := fst_le ss m (s + 1) S hs
      rw [fst_all ss S m (fun g _ => hss g), fst_succ] at h1
      exact h1
    ro := fun i hi => by
      have hl : (RO ss m S).length = m := fst_all ss S m (fun g _ => hss g)
      have hi' : i < (RO ss m S).length := by rw [hl]; exact hi
      show (RO ss m S)[i]! < m
      rw [getElem!_pos _ i hi']
      exact RO_lt ss m S _ (List.getElem_mem hi')
    L1 := hL1
    L2 := hL2
    mk1 := fun e _ => hk1 e
    mk2 := fun e _ => hk2 e }

theorem nin_law {lb xb b16 b20 b28 b32 ob c35 n m E S : Nat} {L : Int} {rs ss st en : Nat → Nat} {mks : Nat → Int} {rp : Nat → Option Addr} {W : World}
    (hl : W.heap[lb]? = some (.cells (lCells b20 b16 m n) 43)) (hx : W.heap[xb]? = some (.cells (xCells lb b32 ob b28 S m E c35 L) 49))
    (r16 : Rw W b16 21 n (vI32 rs)) (r20 : Rw W b20 30 (m * 6) (fGs ss st en)) (r28 : Rw W b28 3 E (vZ mks)) (r32 : Rw W b32 36 (S * 5) (fSe (cnt ss m) (fst ss m) rp)) (rob : Rw W ob 21 m (vI32 fun i => (RO ss m S)[i]!))
    (o : b16 < b20 ∧ b20 < b28 ∧ b28 < b32 ∧ b32 < ob ∧ ob < lb ∧ lb < xb) : NIn (lawPs lb xb b16 b20 b28 b32 ob c35 n m E S L rs ss st en mks rp) W := by
  obtain ⟨o1, o2, o3, o4, o5, o6⟩ := o
  exact { xr := ⟨_, hx, by simp [xCells], fun i hi => by
            have : i < (xCells lb b32 ob b28 S m E c35 L).size := by simpa [xCells] using hi
            show _ = some ((xCells lb b32 ob b28 S m E c35 L)[i]?.getD default)
            simp [this]⟩
          F0 := rfl
          F1 := rfl
          F9 := rfl
          F15 := rfl
          F16 := rfl
          l4 := by show W.cell? ⟨lb, 4, none⟩ = _; rw [cell_of hl]; rfl
          l5 := by show W.cell? ⟨lb, 5, none⟩ = _; rw [cell_of hl]; rfl
          gst := fun g hg => by
            show W.cell? ⟨b20, g * 6 + 3, none⟩ = _
            have hg' : g < m := hg
            rw [r20.cell (i := g * 6 + 3) (by omega)]
            unfold fGs
            rw [show (g * 6 + 3) / 6 = g by omega, show (g * 6 + 3) % 6 = 3 by omega]
            rfl
          gen := fun g hg => by
            show W.cell? ⟨b20, g * 6 + 4, none⟩ = _
            have hg' : g < m := hg
            rw [r20.cell (i := g * 6 + 4) (by omega)]
            unfold fGs
            rw [show (g * 6 + 4) / 6 = g by omega, show (g * 6 + 4) % 6 = 4 by omega]
            rfl
          res := fun i hi => r16.cell hi
          ses := fun s hs => by
            show W.cell? ⟨b32, s * 5 + 2, none⟩ = _
            have hs' : s < S := hs
            rw [r32.cell (i := s * 5 + 2) (by omega)]
            unfold fSe
            rw [show (s * 5 + 2) / 5 = s by omega, show (s * 5 + 2) % 5 = 2 by omega]
            rfl
          sfi := fun s hs => by
            show W.cell? ⟨b32, s * 5 + 3, none⟩ = _
            have hs' : s < S := hs
            rw [r32.cell (i := s * 5 + 3) (by omega)]
            unfold fSe
            rw [show (s * 5 + 3) / 5 = s by omega, show (s * 5 + 3) % 5 = 3 by omega]
            rfl
          ord := fun i hi => rob.cell hi
          marks := r28
          lts := ⟨block_lt hl, r20.lt, r16.lt, r32.lt, rob.lt⟩
          nx := ⟨by show xb ≠ lb; omega, by show xb ≠ b20; omega, by show xb ≠ b16; omega, by show xb ≠ b32; omega, by show xb ≠ ob; omega, by show xb ≠ b28; omega⟩
          nm := ⟨by show b28 ≠ lb; omega, by show b28 ≠ b20; omega, by show b28 ≠ b16; omega, by show b28 ≠ b32; omega, by show b28 ≠ ob; omega⟩ }

set_option maxHeartbeats 4000000 in
set_option maxRecDepth 200000 in
theorem lawF (ar ag am : Option Addr) (n m q capr capg capm el ns E S : Nat) (L : Int) (w : World) (rs ss st en : Nat → Nat) (mks : Nat → Int) (hn : n ≤ 65536) (hm : m ≤ 4096) (hE : E ≤ 16) (hS : S ≤ 5) (hss : ∀ g, ss g < S) (hrs : ∀ i, rs i < E) (hst : ∀ g, st g ≤ en g) (hen : ∀ g, en g ≤ n) (hL1 : -2147483648 ≤ L) (hL2 : L ≤ 2147483647) (hk1 : ∀ e, -2147483648 ≤ mks e) (hk2 : ∀ e, mks e ≤ L)
    (HNEXT : ∀ p, At25 p w) : At20 ar ag am n m q capr capg capm el ns E S L rs ss st en mks w := by
  unfold At20
  intro b16 b19 c19 b20 b21 b28 b31 c31 b32 b33 b34 ob c35 rp W hM u6 u7 u8 u9 u10 u11 u17 u18 u22 u23 u24 u25 u26 u29 u30 u36 u37 u38 u39 u40 u41 u42 u43 u44 u45 u46 u47 u48 u49 u50 u51 u52 u53 u54 u55 u56 u57 u58 u59 u60 u61 u62 u63 u64 u65 u66 u67 u68 u69 u70 u71 u72 u73 u74 u75 u76 u77 u78 u79 u80 u81 u82 u83 u84 u85 u86 u87 u88 u89 u90 u91 u92 u93 u94 u95 u96 u97 u98 u99 u100 u101 u102 u103 u104 u105 u106 u107 u108 u109 u110 u111 u112 u113 u114 u115 u116 u117 u118 u119 u120 u121 u122 u123 u124 u125 u126 u127 u128 u129 u130 u131 u132 u133 u134 u135 u136 u137 u138 u139 u140 u141 u142 u143 u144 u145 u146 u147 u148 u149 u150 u151 u152 u153 u154 u155 u156 u157 u158 u159 u160 u161 u162 u163 u164 u165 u166 u167 u168 u169 u170 u171 u172 u173 u174 u175 u176 u177 u178 u179 u180 u181 u182 u183 u184 u185 u186 u187 u188 u189 u190 u191 u192 u193 u194 u195 u196 u197 u198 u199 u200 u201 u202 u203 u204 u205 u206 u207 u208 u209 u210 u211 u212 u213 u214 u215 u216 u217 u218 u219 u220 u221 u222 u223 u224 u225 u226 u227 u228 u229 u230 u231 u232 u233 u234 u235 u236 u237 u238 u239 u240 u241 u242 u243 u244 u245 u246 u247 u248 u249 u250 u251 u252 u253 u254 u255 u256 u257 u258 u259 u260 u261 u262 u263 u264 u265 u266 u267 u268 u269 u270 u271 u272 u273 u274 u275 u276 u277 u278 u279 u280 u281 u282 u283 u284 u285 u286 u287 u288 u289 u290 u291 u292 u293 u294 u295 u296 u297 u298 u299 u300 u301 u302 u303 u304 u305 u306 u307 u308 u309 u310 u311 u312 u313 u314 u315 u316 u317 u318 u319 u320 u321 u322 u323 u324 u325 u326 u327 u328 u329 u330 u331 u332 u333 u334 u335 u336 u337 u338 u339 u340 u341 u342 u343 u344 u345 u346 u347 u348 u349 u350 u351 u352 u353 u354 u355 u356 u357 u358 u359 u360 u361 u362 u363 u364 u365 u366 u367 u368 u369 u370 u371 u372 u373 u374 u375 u376 u377 u378 u379 u380 u381 u382 u383 u384 u385 u386 u387 u388 u389 u390 u391 u392 u393 u394 u395 u396 u397 u398 u399 u400 u401 u402 u403 u404 u405 u406 u407 u408 u409 u410 u411 u412 u413 u414 u415 u416 u417 u418 u419 u420 u421 u422 u423 u424 u425 u426 u427 u428 u429 u430 u431 u432 u433 u434 u435 u436 u437 u438 u439 u440 u441 u442 u443 u444 u445 u446 u447 u448 u449 u450 u451 u452 u453 u454 u455 u456 u457 u458 u459 u460 u461 u462 u463 u464 u465 u466 u467 u468 u469 u470 u471 u472 u473 u474 u475 u476 u477 u478 u479 u480 u481 u482 u483 u484 u485 u486 u487 u488 u489 u490 u491 u492 u493 u494 u495 u496 u497 u498 u499 u500 u501 u502 u503 u504 u505 u506 u507 u508 u509 u510 u511 u512 u513 u514 u515 u516 u517 u518 u519 u520 u521 u522 u523 u524 u525 u526 u527 u528 u529 u530 u531 u532 u533 u534 u535 u536 u537 u538 u539 u540 u541 u542 u543 u544 u545 u546 u547 u548 u549 u550 u551 u552 u553 u554 u555 u556 u557 u558 u559 u560 u561 u562 u563 u564 u565 u566 u567 u568 u569 u570 u571 u572 u573 u574 u575 u576 u577 u578 u579 u580 u581 u582 u583 u584 u585 u586 u587 u588 u589 u590 u591 u592 u593 u594 u595 u596
  have HX : Hid (∀ p, At25 p w) := HNEXT
  have HM : Hid (M20 w n m E S rs ss st en mks rp b16 b19 b20 b28 b31 b32 b33 b34 ob c35 W) := hM
  have HOK : Hid (∀ lb xb, Ok (lawPs lb xb b16 b20 b28 b32 ob c35 n m E S L rs ss st en mks rp)) := fun lb xb => ok_law hn hm hE hS hss hrs hst hen hM.cap hL1 hL2 hk1 hk2
  have HC : Hid (Calls Ybgt.prog 4 #[.slice (some ⟨ob, 0, none⟩) m c35] W (ResC 21 m (fun i => .int .i32 (((RO ss m S)[i]! : Nat) : Int)) W)) := clone4 ob 0 m c35 (fun i => (((RO ss m S)[i]! : Nat) : Int)) W (by omega) (fun i hi => by rw [Nat.zero_add]; exact hM.rob.cell hi)
  clear hM HNEXT hss hrs hst hen hk1 hk2
  conv => arg 2; whnf
  conv => arg 4; dsimp only
  refine seq_var (fun K hK => ?_)
  have HK20 : Hid _ := hK
  clear hK
  go_wp2_with (go_at_call 4; refine HC.out.mono ?_; rintro e W3 ⟨b39, c39, rfl, hcap, hge, hrw, hbl⟩)
  refine HK20.out _ _ ?_
  clear HK20 K
  have HB : Hid (W.heap.size ≤ b39 ∧ Rw W3 b39 21 m (vI32 fun i => (RO ss m S)[i]!) ∧ Below W.heap.size W W3) := ⟨hge, hrw, hbl⟩
  have HCAP : Hid (m ≤ c39) := hcap
  clear hge hrw hbl hcap
  refine seq_var (fun K hK => ?_)
  have HK21 : Hid _ := hK
  clear hK
  go_wp2
  refine HK21.out _ _ ?_
  clear HK21 K
  obtain ⟨W5, hW5⟩ : ∃ W5, W5 = (W3.alloc (.cells (lCells b20 b16 m n) 43)).alloc (.cells (xCells W3.heap.size b32 ob b28 S m E c35 L) 49) := ⟨_, rfl⟩
  obtain ⟨p, hp⟩ : ∃ p, p = lawPs W3.heap.size (W3.heap.size + 1) b16 b20 b28 b32 ob c35 n m E S L rs ss st en mks rp := ⟨_, rfl⟩
  have HG : Hid (W3.heap.size + 2 = W5.heap.size ∧ Below W3.heap.size W3 W5 ∧ NIn p W5) := by
    obtain ⟨h1, h2, h3⟩ := HB.out
    have hM := HM.out
    obtain ⟨o1, o2, o3, o4, o5, o6, o7, o8, o9⟩ := hM.o
    have hb1 : Below W3.heap.size W3 (W3.alloc (.cells (lCells b20 b16 m n) 43)) := below_alloc W3 _
    have hb : Below W3.heap.size W3 W5 := by rw [hW5]; exact hb1.alloc (by rw [World.size_alloc]; omega) _
    have hs : W5.heap.size = W3.heap.size + 2 := by rw [hW5, World.size_alloc, World.size_alloc]
    have lob := hM.rob.lt
    have e : ∀ {b T n : Nat} {f : Nat → Value}, Rw W b T n f → Rw W5 b T n f := fun h => (h.below h3 h.lt).below hb (Nat.lt_of_lt_of_le h.lt h3.size)
    have hz := h3.size
    refine ⟨by omega, hb, ?_⟩
    rw [hp]
    refine nin_law ?_ ?_ (e hM.r16) (e hM.r20) (e hM.r28) (e hM.r32) (e hM.rob) ⟨by omega, by omega, by omega, by omega, by omega, by omega⟩
    · rw [hW5, Below.heap_alloc _ _ _ (by rw [World.size_alloc]; omega)]
      exact heap_new W3 _
    · rw [hW5]
      have := heap_new (W3.alloc (.cells (lCells b20 b16 m n) 43)) (.cells (xCells W3.heap.size b32 ob b28 S m E c35 L) 49)
      rw [World.size_alloc] at this
      exact this
  have HN : Hid (Calls Ybgt.prog 6 #[.pointer (some ⟨W3.heap.size + 1, 0, none⟩)] W5 (ResN p W5)) := by
    have := new_any p W5 (by rw [hp]; exact HOK.out _ _) HG.out.2.2
    rw [show p.xb = W3.heap.size + 1 by rw [hp]; rfl] at this
    exact this
  unfold xCells lCells at hW5
  rw [← hW5]
  have HP : Hid (p = lawPs W3.heap.size (W3.heap.size + 1) b16 b20 b28 b32 ob c35 n m E S L rs ss st en mks rp) := hp
  have hpx : p.xb = W3.heap.size + 1 := by rw [hp]; rfl
  have hpm : p.m = m := by rw [hp]; rfl
  clear hp hW5
  refine seq_var (fun K hK => ?_)
  have HK22 : Hid _ := hK
  clear hK
  go_wp2_with (go_at_call 6; refine HN.out.mono ?_; rintro e W6 ⟨cv, ct, Bb, Bz, Bh, Bk, rv, BSf, rfl, hN2, hseg⟩)
  refine HK22.out _ _ ?_
  clear HK22 K
  have c0 : W6.cell? ⟨ct, 0, none⟩ = some (.pointer (some ⟨W3.heap.size + 1, 0, none⟩)) := by rw [cell_of hN2.ctb, ← hpx]; rfl
  have c3 : W6.cell? ⟨ct, 3, none⟩ = some (.slice (some ⟨Bz, 0, none⟩) m m) := by rw [cell_of hN2.ctb, ← hpm]; rfl
  have HM5 : Hid (M25 p w b19 b31 b33 b34 b39 c39 ss cv ct Bb Bz Bh Bk rv BSf W5 W6) := by
    obtain ⟨h1, h2, h3⟩ := HB.out
    obtain ⟨g1, g2, g3⟩ := HG.out
    have hM := HM.out
    obtain ⟨o1, o2, o3, o4, o5, o6, o7, o8, o9⟩ := hM.o
    have hz := h3.size
    have l39 := h2.lt
    have lob := hM.rob.lt
    have e2 : ∀ {b T n : Nat} {f : Nat → Value}, Rw W3 b T n f → b ≠ b28 → Rw W6 b T n f := fun {b T n f} h hne => ((h.below g2 h.lt).kp hN2.kp (by have := h.lt; rw [HP.out]; simp [lawPs]; exact ⟨hne, by omega⟩))
    have e : ∀ {b T n : Nat} {f : Nat → Value}, Rw W b T n f → b ≠ b28 → Rw W6 b T n f := fun h hne => e2 (h.below h3 h.lt) hne
    have hb5 : Below w.heap.size w W5 := (hM.bel.trans (h3.mono hM.bel.size)).trans (g2.mono (by have := hM.bel.size; omega))
    have hb6 : Below w.heap.size w W6 := hb5.trans (hN2.kp.toBelow hb5.size (by rw [HP.out]; intro k hk; simp [lawPs] at hk; have := hM.bel.size; omega))
    have q16 := e hM.r16 (by omega)
    have q19 := e hM.r19 (by omega)
    have q20 := e hM.r20 (by omega)
    have q31 := e hM.r31 (by omega)
    have q33 := e hM.r33 (by omega)
    have q34 := e hM.r34 (by omega)
    have qob := e hM.rob (by omega)
    have q39 := e2 h2 (by omega)
    have l5 := hN2.old g3.lts.1 g3.nm.1 g3.nx.1 g3.l5
    have hok := HOK.out W3.heap.size (W3.heap.size + 1)
    have hp := HP.out
    subst hp
    exact ⟨hok, hb6, hN2, g3, hseg, q16, q19, q20, q31, q33, q34, qob, q39, l5, ⟨by omega, hb5.size⟩, HCAP.out⟩
  clear hN2 hseg
  have hneq := neq37 (W3.heap.size + 1) W6
  refine seq_var (fun K hK => ?_)
  have HK23 : Hid _ := hK
  clear hK
  go_wp2
  refine HK23.out _ _ ?_
  clear HK23 K
  refine seq_var (fun K hK => ?_)
  have HK24 : Hid _ := hK
  clear hK
  go_wp2
  refine HK24.out _ _ ?_
  clear HK24 K
  have hx := HX.out p
  unfold At25 at hx
  have hm5 := HM5.out
  have hp := HP.out
  clear hpx hpm c0 c3 HM5 HG HN hneq
  subst hp
  apply hx _ c19 _ c31 _ _ _ _ _ _ _ _ _ _ _ _ _ _ _ hm5
end Go.Proofs.Yboneofkt
