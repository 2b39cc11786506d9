/-
  The law's loop over the entries.
-/
import Derived.Test.YboneofkuInv
import Derived.Test.YboneofkuCut
namespace Go.Proofs.Yboneofku
open Go.RowKit

/-- the map after k entries. -/
def DE (eN : Nat → Int) (eL : Nat → Bool) (eT : Nat → Int) (eS : Nat → ByteArray) (eP : Nat → Int) (eU : Nat → Bool) : Nat → DataW LA
  | 0 => .map []
  | k + 1 => (DE eN eL eT eS eP eU k).put (kl (eN k)) (.held ⟨eL k, eS k, eP k, eT k, eU k⟩)

theorem Ybgu.info2 : (Ybgu.prog.info? 2).map (fun i => (i.zero, i.size, i.bytes)) = some (some (.int .i64 0), 1, 8) := by kernel_rfl

set_option maxHeartbeats 4000000 in
set_option linter.unusedSimpArgs false in
set_option maxRecDepth 20000 in
theorem stageB (ae an : Option Addr) (n m cape capn : Nat) (S : Nat → ByteArray) (N T : Nat → Int) (St : Nat → Bool) (id : ByteArray) (nm sn : Bool) (o : Int) (rb ob eb : Nat) (w : World) (bn offn : Nat) (eN : Nat → Int) (eL : Nat → Bool) (eT : Nat → Int) (eS : Nat → ByteArray) (eP : Nat → Int) (eU : Nat → Bool)
    (hm : m ≤ 65536) (hen : 0 < m → an = some ⟨bn, offn, none⟩ ∧ bn < w.heap.size)
    (h0 : ∀ j, j < m → w.cell? ⟨bn, offn + j * 6, none⟩ = some (.int .i64 (eN j))) (h1 : ∀ j, j < m → w.cell? ⟨bn, offn + j * 6 + 1, none⟩ = some (.bool (eL j))) (h2 : ∀ j, j < m → w.cell? ⟨bn, offn + j * 6 + 2, none⟩ = some (.int .i64 (eT j)))
    (h3 : ∀ j, j < m → w.cell? ⟨bn, offn + j * 6 + 3, none⟩ = some (.string (eS j))) (h4 : ∀ j, j < m → w.cell? ⟨bn, offn + j * 6 + 4, none⟩ = some (.int .i64 (eP j))) (h5 : ∀ j, j < m → w.cell? ⟨bn, offn + j * 6 + 5, none⟩ = some (.bool (eU j)))
    (hE : ∀ j, j < m → Wf (eN j)) (hsn : 0 < m → sn = false) (W : World)
    (hinv : Inv w n S N T St o rb ob eb sn 0 (.map []) [] 0 (.map []) (.slice none 0 0) W)
    (HNEXT : Hid (∀ (kv : Value) (ks : List Int) (W : World), Inv w n S N T St o rb ob eb sn m (DE eN eL eT eS eP eU m) ks m (DE eN eL eT eS eP eU m) kv W → KeysOK ks (DE eN eL eT eS eP eU m) → ks.length ≤ m → ∀ (u5 u6 u7 u8 u9 u16 u17 u18 u19 u20 u22 u23 u24 u25 u26 u27 u28 u29 u30 u31 u32 u33 u34 u35 u36 u37 u38 u39 u40 u41 u42 u43 u44 u45 u46 u47 u48 u49 u50 u51 u52 u53 u54 u55 u56 u57 u58 u59 u60 u61 u62 u63 u64 u65 u66 u67 u68 u69 u70 u71 u72 u73 u74 u75 u76 u77 u78 u79 u80 u81 u82 u83 u84 u85 u86 u87 u88 u89 u90 u91 u92 u93 u94 u95 u96 u97 u98 u99 u100 u101 u102 u103 u104 u105 u106 u107 u108 u109 u110 u111 u112 u113 u114 u115 u116 u117 u118 u119 u120 u121 u122 u123 u124 u125 u126 u127 u128 u129 u130 u131 u132 u133 u134 u135 u136 u137 u138 u139 u140 u141 u142 u143 u144 u145 u146 u147 u148 u149 u150 u151 u152 u153 u154 u155 u156 u157 u158 u159 u160 u161 u162 u163 u164 u165 u166 u167 u168 u169 u170 u171 u172 u173 u174 u175 u176 u177 u178 u179 u180 u181 u182 u183 u184 u185 u186 u187 u188 u189 u190 u191 u192 u193 u194 u195 u196 u197 u198 u199 u200 u201 u202 u203 u204 u205 u206 u207 u208 u209 u210 u211 u212 u213 u214 u215 u216 u217 u218 u219 u220 u221 u222 u223 u224 u225 u226 u227 u228 u229 u230 u231 u232 u233 u234 u235 u236 u237 u238 u239 u240 u241 u242 u243 u244 u245 u246 u247 u248 u249 u250 u251 u252 u253 u254 u255 u256 u257 u258 u259 u260 u261 u262 u263 u264 u265 u266 u267 u268 u269 u270 u271 u272 u273 u274 u275 u276 u277 u278 u279 u280 u281 u282 u283 u284 u285 u286 u287 u288 u289 u290 u291 u292 u293 u294 u295 u296 u297 u298 u299 u300 u301 u302 u303 u304 u305 u306 u307 u308 u309 u310 u311 u312 u313 u314 u315 u316 u317 u318 u319 u320 : Value),
      Code.wp Ybgu.prog ((Ybgu.f3.body.bind (fromR 21)).getD .skip) (bodyPost Ybgu.prog Ybgu.f3 fun e w' => e = .returned (.bool true) ∧ Below w.heap.size w w') ⟨#[.slice ae n cape, .string id, .slice an m capn, .bool nm, .int .i64 o, u5, u6, u7, u8, u9, .bool false, .slice (some ⟨rb, 0, none⟩) n n, .pointer (some ⟨ob, 0, none⟩), .map (some eb), kv, .bool sn, u16, u17, u18, u19, u20, .bool false, u22, u23, u24, u25, u26, u27, u28, u29, u30, u31, u32, u33, u34, u35, u36, u37, u38, u39, u40, u41, u42, u43, u44, u45, u46, u47, u48, u49, u50, u51, u52, u53, u54, u55, u56, u57, u58, u59, u60, u61, u62, u63, u64, u65, u66, u67, u68, u69, u70, u71, u72, u73, u74, u75, u76, u77, u78, u79, u80, u81, u82, u83, u84, u85, u86, u87, u88, u89, u90, u91, u92, u93, u94, u95, u96, u97, u98, u99, u100, u101, u102, u103, u104, u105, u106, u107, u108, u109, u110, u111, u112, u113, u114, u115, u116, u117, u118, u119, u120, u121, u122, u123, u124, u125, u126, u127, u128, u129, u130, u131, u132, u133, u134, u135, u136, u137, u138, u139, u140, u141, u142, u143, u144, u145, u146, u147, u148, u149, u150, u151, u152, u153, u154, u155, u156, u157, u158, u159, u160, u161, u162, u163, u164, u165, u166, u167, u168, u169, u170, u171, u172, u173, u174, u175, u176, u177, u178, u179, u180, u181, u182, u183, u184, u185, u186, u187, u188, u189, u190, u191, u192, u193, u194, u195, u196, u197, u198, u199, u200, u201, u202, u203, u204, u205, u206, u207, u208, u209, u210, u211, u212, u213, u214, u215, u216, u217, u218, u219, u220, u221, u222, u223, u224, u225, u226, u227, u228, u229, u230, u231, u232, u233, u234, u235, u236, u237, u238, u239, u240, u241, u242, u243, u244, u245, u246, u247, u248, u249, u250, u251, u252, u253, u254, u255, u256, u257, u258, u259, u260, u261, u262, u263, u264, u265, u266, u267, u268, u269, u270, u271, u272, u273, u274, u275, u276, u277, u278, u279, u280, u281, u282, u283, u284, u285, u286, u287, u288, u289, u290, u291, u292, u293, u294, u295, u296, u297, u298, u299, u300, u301, u302, u303, u304, u305, u306, u307, u308, u309, u310, u311, u312, u313, u314, u315, u316, u317, u318, u319, u320], []⟩ W))
    (u5 u6 u7 u8 u9 u16 u17 u18 u19 u20 u21 u22 u23 u24 u25 u26 u27 u28 u29 u30 u31 u32 u33 u34 u35 u36 u37 u38 u39 u40 u41 u42 u43 u44 u45 u46 u47 u48 u49 u50 u51 u52 u53 u54 u55 u56 u57 u58 u59 u60 u61 u62 u63 u64 u65 u66 u67 u68 u69 u70 u71 u72 u73 u74 u75 u76 u77 u78 u79 u80 u81 u82 u83 u84 u85 u86 u87 u88 u89 u90 u91 u92 u93 u94 u95 u96 u97 u98 u99 u100 u101 u102 u103 u104 u105 u106 u107 u108 u109 u110 u111 u112 u113 u114 u115 u116 u117 u118 u119 u120 u121 u122 u123 u124 u125 u126 u127 u128 u129 u130 u131 u132 u133 u134 u135 u136 u137 u138 u139 u140 u141 u142 u143 u144 u145 u146 u147 u148 u149 u150 u151 u152 u153 u154 u155 u156 u157 u158 u159 u160 u161 u162 u163 u164 u165 u166 u167 u168 u169 u170 u171 u172 u173 u174 u175 u176 u177 u178 u179 u180 u181 u182 u183 u184 u185 u186 u187 u188 u189 u190 u191 u192 u193 u194 u195 u196 u197 u198 u199 u200 u201 u202 u203 u204 u205 u206 u207 u208 u209 u210 u211 u212 u213 u214 u215 u216 u217 u218 u219 u220 u221 u222 u223 u224 u225 u226 u227 u228 u229 u230 u231 u232 u233 u234 u235 u236 u237 u238 u239 u240 u241 u242 u243 u244 u245 u246 u247 u248 u249 u250 u251 u252 u253 u254 u255 u256 u257 u258 u259 u260 u261 u262 u263 u264 u265 u266 u267 u268 u269 u270 u271 u272 u273 u274 u275 u276 u277 u278 u279 u280 u281 u282 u283 u284 u285 u286 u287 u288 u289 u290 u291 u292 u293 u294 u295 u296 u297 u298 u299 u300 u301 u302 u303 u304 u305 u306 u307 u308 u309 u310 u311 u312 u313 u314 u315 u316 u317 u318 u319 u320 : Value) :
    Code.wp Ybgu.prog ((Ybgu.f3.body.bind (fromR 10)).getD .skip) (bodyPost Ybgu.prog Ybgu.f3 fun e w' => e = .returned (.bool true) ∧ Below w.heap.size w w') ⟨#[.slice ae n cape, .string id, .slice an m capn, .bool nm, .int .i64 o, u5, u6, u7, u8, u9, .bool false, .slice (some ⟨rb, 0, none⟩) n n, .pointer (some ⟨ob, 0, none⟩), .map (some eb), .slice none 0 0, .bool sn, u16, u17, u18, u19, u20, u21, u22, u23, u24, u25, u26, u27, u28, u29, u30, u31, u32, u33, u34, u35, u36, u37, u38, u39, u40, u41, u42, u43, u44, u45, u46, u47, u48, u49, u50, u51, u52, u53, u54, u55, u56, u57, u58, u59, u60, u61, u62, u63, u64, u65, u66, u67, u68, u69, u70, u71, u72, u73, u74, u75, u76, u77, u78, u79, u80, u81, u82, u83, u84, u85, u86, u87, u88, u89, u90, u91, u92, u93, u94, u95, u96, u97, u98, u99, u100, u101, u102, u103, u104, u105, u106, u107, u108, u109, u110, u111, u112, u113, u114, u115, u116, u117, u118, u119, u120, u121, u122, u123, u124, u125, u126, u127, u128, u129, u130, u131, u132, u133, u134, u135, u136, u137, u138, u139, u140, u141, u142, u143, u144, u145, u146, u147, u148, u149, u150, u151, u152, u153, u154, u155, u156, u157, u158, u159, u160, u161, u162, u163, u164, u165, u166, u167, u168, u169, u170, u171, u172, u173, u174, u175, u176, u177, u178, u179, u180, u181, u182, u183, u184, u185, u186, u187, u188, u189, u190, u191, u192, u193, u194, u195, u196, u197, u198, u199, u200, u201, u202, u203, u204, u205, u206, u207, u208, u209, u210, u211, u212, u213, u214, u215, u216, u217, u218, u219, u220, u221, u222, u223, u224, u225, u226, u227, u228, u229, u230, u231, u232, u233, u234, u235, u236, u237, u238, u239, u240, u241, u242, u243, u244, u245, u246, u247, u248, u249, u250, u251, u252, u253, u254, u255, u256, u257, u258, u259, u260, u261, u262, u263, u264, u265, u266, u267, u268, u269, u270, u271, u272, u273, u274, u275, u276, u277, u278, u279, u280, u281, u282, u283, u284, u285, u286, u287, u288, u289, u290, u291, u292, u293, u294, u295, u296, u297, u298, u299, u300, u301, u302, u303, u304, u305, u306, u307, u308, u309, u310, u311, u312, u313, u314, u315, u316, u317, u318, u319, u320], []⟩ W := by
  conv => arg 2; whnf
  have HC : Hid ((∀ j, j < m → w.cell? ⟨bn, offn + j * 6, none⟩ = some (.int .i64 (eN j))) ∧ (∀ j, j < m → w.cell? ⟨bn, offn + j * 6 + 1, none⟩ = some (.bool (eL j))) ∧ (∀ j, j < m → w.cell? ⟨bn, offn + j * 6 + 2, none⟩ = some (.int .i64 (eT j))) ∧ (∀ j, j < m → w.cell? ⟨bn, offn + j * 6 + 3, none⟩ = some (.string (eS j))) ∧ (∀ j, j < m → w.cell? ⟨bn, offn + j * 6 + 4, none⟩ = some (.int .i64 (eP j))) ∧ (∀ j, j < m → w.cell? ⟨bn, offn + j * 6 + 5, none⟩ = some (.bool (eU j)))) := ⟨h0, h1, h2, h3, h4, h5⟩
  have HE : Hid (∀ j, j < m → Wf (eN j)) := hE
  have HEN : Hid (0 < m → an = some ⟨bn, offn, none⟩ ∧ bn < w.heap.size) := hen
  have HSN : Hid (0 < m → sn = false) := hsn
  clear h0 h1 h2 h3 h4 h5 hE hen hsn
  go_wp2
  go_loopw [68, 14] (fun i kv wr => ∃ (k : Nat) (ks : List Int), k ≤ m ∧ i = .int .i64 k ∧ Inv w n S N T St o rb ob eb sn k (DE eN eL eT eS eP eU k) ks k (DE eN eL eT eS eP eU k) kv wr ∧ KeysOK ks (DE eN eL eT eS eP eU k) ∧ ks.length ≤ k) (fun i _ _ => m - (intOf i).toNat)
  case atStart => exact ⟨0, [], Nat.zero_le _, rfl, hinv, keys_empty, Nat.le_refl _⟩
  case round =>
    obtain ⟨k, ks, hk, rfl, hI, hK, hks⟩ := hrel
    by_cases hlt : k < m
    · obtain ⟨rfl, hbn⟩ := HEN.out (by omega)
      have hsn := HSN.out (by omega)
      subst hsn
      have hNk := HE.out k hlt
      have c0 := (hI.bel.cell (p := ⟨bn, offn + k * 6, none⟩) hbn).trans (HC.out.1 k hlt)
      have c1 := (hI.bel.cell (p := ⟨bn, offn + k * 6 + 1, none⟩) hbn).trans (HC.out.2.1 k hlt)
      have c2 := (hI.bel.cell (p := ⟨bn, offn + k * 6 + 2, none⟩) hbn).trans (HC.out.2.2.1 k hlt)
      have c3 := (hI.bel.cell (p := ⟨bn, offn + k * 6 + 3, none⟩) hbn).trans (HC.out.2.2.2.1 k hlt)
      have c4 := (hI.bel.cell (p := ⟨bn, offn + k * 6 + 4, none⟩) hbn).trans (HC.out.2.2.2.2.1 k hlt)
      have c5 := (hI.bel.cell (p := ⟨bn, offn + k * 6 + 5, none⟩) hbn).trans (HC.out.2.2.2.2.2 k hlt)
      obtain ⟨_, hlo, hle⟩ := hI.lts
      obtain ⟨mv, hob, hmv1, hmv2⟩ := hI.own
      have hmb : ∃ mb, mv = .map (some mb) ∧ OM wr mb k (DE eN eL eT eS eP eU k) := by
        rcases hI.shown with ⟨h, _⟩ | ⟨_, mb, h2, h3⟩
        · cases h
        · exact ⟨mb, by rw [cell_of hob] at h2; simpa using h2, h3⟩
      obtain ⟨mb, rfl, hom⟩ := hmb
      have hmlt := hom.lt
      obtain ⟨W2, hW2⟩ : ∃ W2, W2 = (wr.alloc (.cells #[.int .i64 (eN k), .bool (eL k), .int .i64 (eT k), .string (eS k), .int .i64 (eP k), .bool (eU k)] 33)).alloc (.cells #[.bool (eL k), .string (eS k), .int .i64 (eP k), .int .i64 (eT k), .bool (eU k)] 39) := ⟨_, rfl⟩
      have hI2 : Inv w n S N T St o rb ob eb false k (DE eN eL eT eS eP eU k) ks k (DE eN eL eT eS eP eU k) u14 W2 := by rw [hW2]; exact (hI.alloc _).alloc _
      have ho2 : ∀ b, b < wr.heap.size → W2.heap[b]? = wr.heap[b]? := fun b hb => by rw [hW2, Below.heap_alloc _ _ _ (by simp; omega), Below.heap_alloc _ _ _ hb]
      have hb17 : W2.heap[wr.heap.size]? = some (.cells #[.int .i64 (eN k), .bool (eL k), .int .i64 (eT k), .string (eS k), .int .i64 (eP k), .bool (eU k)] 33) := by rw [hW2, Below.heap_alloc _ _ _ (by simp)]; exact heap_alloc_new' wr _
      have hb18 : W2.heap[wr.heap.size + 1]? = some (.cells #[.bool (eL k), .string (eS k), .int .i64 (eP k), .int .i64 (eT k), .bool (eU k)] 39) := by
        have := heap_alloc_new' (wr.alloc (.cells #[.int .i64 (eN k), .bool (eL k), .int .i64 (eT k), .string (eS k), .int .i64 (eP k), .bool (eU k)] 33)) (.cells #[.bool (eL k), .string (eS k), .int .i64 (eP k), .int .i64 (eT k), .bool (eU k)] 39)
        rw [hW2]
        rw [World.size_alloc] at this
        exact this
      have hs2 : W2.heap.size = wr.heap.size + 2 := by rw [hW2]; simp
      obtain ⟨W3, hrun, hom3, hg3⟩ := OM.put (w := W2.drew) (OM.of_block hom (ho2 _ hmlt)) (by simp only [maxLen]; omega) hNk ⟨eL k, eS k, eP k, eT k, eU k⟩
      simp only [lav, lacs] at hrun
      have hmn1 : ob ≠ mb := OM.ne hom (by rw [cell_of hob]; rfl : wr.cell? ⟨ob, 3, none⟩ = some (.map (some mb)))
      have k3 : ∀ b, b < W2.heap.size → b ≠ mb → W3.heap[b]? = W2.heap[b]? := fun b hb hne => hg3.block b hb (by simpa using hne)
      have hs3 : W2.heap.size ≤ W3.heap.size := hg3.size
      have e3 : W2.cell? ⟨ob, 3, none⟩ = some (.map (some mb)) := by rw [World.cell?_of_block (w := wr) (ho2 _ hlo), cell_of hob]; rfl
      have hI3 : Inv w n S N T St o rb ob eb false (k + 1) (DE eN eL eT eS eP eU (k + 1)) ks k (DE eN eL eT eS eP eU k) u14 W3 := (hI2.drew).putOwn e3 rfl hom3 (OM.of_block hom (ho2 _ hmlt)) hg3
      have e3' : W3.cell? ⟨ob, 3, none⟩ = some (.map (some mb)) := (World.cell?_of_block (w := W2) (k3 ob (by omega) hmn1)).trans e3
      have hb17' := (k3 _ (by omega) (by omega)).trans hb17
      have hb18' := (k3 _ (by omega) (by omega)).trans hb18
      have f0 : W2.cell? ⟨wr.heap.size, 0, none⟩ = some (.int .i64 (eN k)) := by rw [cell_of hb17]; rfl
      have g0 : W2.cell? ⟨wr.heap.size + 1, 0, none⟩ = some (.bool (eL k)) := by rw [cell_of hb18]; rfl
      have g1 : W2.cell? ⟨wr.heap.size + 1, 1, none⟩ = some (.string (eS k)) := by rw [cell_of hb18]; rfl
      have g2 : W2.cell? ⟨wr.heap.size + 1, 2, none⟩ = some (.int .i64 (eP k)) := by rw [cell_of hb18]; rfl
      have g3 : W2.cell? ⟨wr.heap.size + 1, 3, none⟩ = some (.int .i64 (eT k)) := by rw [cell_of hb18]; rfl
      have g4 : W2.cell? ⟨wr.heap.size + 1, 4, none⟩ = some (.bool (eU k)) := by rw [cell_of hb18]; rfl
      have F0 : W3.cell? ⟨wr.heap.size, 0, none⟩ = some (.int .i64 (eN k)) := by rw [cell_of hb17']; rfl
      have G0 : W3.cell? ⟨wr.heap.size + 1, 0, none⟩ = some (.bool (eL k)) := by rw [cell_of hb18']; rfl
      have G1 : W3.cell? ⟨wr.heap.size + 1, 1, none⟩ = some (.string (eS k)) := by rw [cell_of hb18']; rfl
      have G2 : W3.cell? ⟨wr.heap.size + 1, 2, none⟩ = some (.int .i64 (eP k)) := by rw [cell_of hb18']; rfl
      have G3 : W3.cell? ⟨wr.heap.size + 1, 3, none⟩ = some (.int .i64 (eT k)) := by rw [cell_of hb18']; rfl
      have G4 : W3.cell? ⟨wr.heap.size + 1, 4, none⟩ = some (.bool (eU k)) := by rw [cell_of hb18']; rfl
      have HW2 : Hid (W2 = (wr.alloc (.cells #[.int .i64 (eN k), .bool (eL k), .int .i64 (eT k), .string (eS k), .int .i64 (eP k), .bool (eU k)] 33)).alloc (.cells #[.bool (eL k), .string (eS k), .int .i64 (eP k), .int .i64 (eT k), .bool (eU k)] 39)) := hW2
      have HB17 : Hid (W3.heap[wr.heap.size]? = some (.cells #[.int .i64 (eN k), .bool (eL k), .int .i64 (eT k), .string (eS k), .int .i64 (eP k), .bool (eU k)] 33)) := hb17'
      have HB18 : Hid (W3.heap[wr.heap.size + 1]? = some (.cells #[.bool (eL k), .string (eS k), .int .i64 (eP k), .int .i64 (eT k), .bool (eU k)] 39)) := hb18'
      have hlk := OM.look_ok hI3.exp hNk
      obtain ⟨wa, hwa⟩ : ∃ wa, wa = laAt (DE eN eL eT eS eP eU k) (eN k) := ⟨_, rfl⟩
      rw [← hwa] at hlk
      clear hwa
      obtain ⟨wl, ws, wn, wt, wu⟩ := wa
      simp only [lav, lacs] at hlk
      have hlt17 := lt_of_block hb17'
      have hlt18 := lt_of_block hb18'
      have hle3 := hI3.lts.2.2
      clear ho2 hb17 hb18 hom3 hg3 k3 hs3 hb17' hb18' hW2 hmv1 hmv2 hob hom
      go_upto_region 14 with (fail)
      rw [← HW2.out]
      clear c0 c1 c2 c3 c4 c5
      go_region_held3 (fun w' => w'.cell? ⟨ob, 3, none⟩ = some (.map (some mb)) ∧ w'.cell? ⟨wr.heap.size, 0, none⟩ = some (.int .i64 (eN k)) ∧ w'.cell? ⟨wr.heap.size + 1, 0, none⟩ = some (.bool (eL k)) ∧ w'.cell? ⟨wr.heap.size + 1, 1, none⟩ = some (.string (eS k)) ∧ w'.cell? ⟨wr.heap.size + 1, 2, none⟩ = some (.int .i64 (eP k)) ∧ w'.cell? ⟨wr.heap.size + 1, 3, none⟩ = some (.int .i64 (eT k)) ∧ w'.cell? ⟨wr.heap.size + 1, 4, none⟩ = some (.bool (eU k))) (go_keep) (fail)
      clear e3 f0 g0 g1 g2 g3 g4 hrun
      have HLT : Hid (eb < W3.heap.size ∧ wr.heap.size < W3.heap.size ∧ wr.heap.size + 1 < W3.heap.size) := ⟨hle3, hlt17, hlt18⟩
      have hDE : DE eN eL eT eS eP eU (k + 1) = (DE eN eL eT eS eP eU k).put (kl (eN k)) (.held ⟨eL k, eS k, eP k, eT k, eU k⟩) := rfl
      have HDE : Hid (DE eN eL eT eS eP eU (k + 1) = (DE eN eL eT eS eP eU k).put (kl (eN k)) (.held ⟨eL k, eS k, eP k, eT k, eU k⟩)) := hDE
      clear hDE
      have hKn := fun ht => keys_step hK hNk ⟨eL k, eS k, eP k, eT k, eU k⟩ ht
      have HKN : Hid (Maps.Tidy ((DE eN eL eT eS eP eU k).put (kl (eN k)) (.held ⟨eL k, eS k, eP k, eT k, eU k⟩)) → KeysOK (if Maps.has (DE eN eL eT eS eP eU k) (kl (eN k)) then ks else ks ++ [eN k]) ((DE eN eL eT eS eP eU k).put (kl (eN k)) (.held ⟨eL k, eS k, eP k, eT k, eU k⟩))) := hKn
      clear hKn
      cases hh : Maps.has (DE eN eL eT eS eP eU k) (kl (eN k))
      · rw [hh] at hlk
        have hI4 := hI3.alloc (.cells #[.bool wl, .string ws, .int .i64 wn, .int .i64 wt, .bool wu] 39)
        obtain ⟨i0, hi0, hz0, hz1, hz2⟩ := info_parts Ybgu.info2
        have HK4 : Hid (((W3.alloc (.cells #[.bool wl, .string ws, .int .i64 wn, .int .i64 wt, .bool wu] 39)).alloc (.cells #[.int .i64 (eN k)] 2)).ownsRow w.heap.size 2 1 u14 ks.length (ks.map (Value.int .i64))) := hI4.keys.alloc _
        have hbb := hI4.bel.size
        have HSZ : Hid (w.heap.size ≤ ((W3.alloc (.cells #[.bool wl, .string ws, .int .i64 wn, .int .i64 wt, .bool wu] 39)).alloc (.cells #[.int .i64 (eN k)] 2)).heap.size) := by rw [World.size_alloc]; exact Nat.le_succ_of_le hbb
        clear hbb
        have HNW : Hid (∀ j u, [Value.int .i64 (eN k)][j]? = some u → ((W3.alloc (.cells #[.bool wl, .string ws, .int .i64 wn, .int .i64 wt, .bool wu] 39)).alloc (.cells #[.int .i64 (eN k)] 2)).cell? ((⟨W3.heap.size + 1, 0, none⟩ : Addr).add j) = some u) := by
          intro j v hv
          cases j with
          | zero =>
            simp at hv
            subst hv
            rw [Addr.add_mid, World.cell?_alloc_at (hn := by simp)]
            rfl
          | succ j => simp at hv
        go_upto_region 18 with (at_builtin; refine wpList_append_own _ rfl (.tmp 101) (.tmp 104) 31 rfl w.heap.size 2 i0 (.int .i64 0) 1 8 Ybgu.underlying31 hi0 hz0 hz1 hz2 rfl (by omega) u14 ks.length (ks.map (Value.int .i64)) rfl HK4.out _ 1 _ [.int .i64 (eN k)] rfl rfl HNW.out (by simp [Value.oneCell']) (by simp only [maxLen]; omega) (by omega) HSZ.out ?_; intro kv' W6 hk6 hg6 _)
        rename Value => kv'
        rename World => W6
        rename World.grownBy _ _ _ => hg6
        rename World.ownsRow _ _ _ _ _ _ _ => hk6
        have hI5 := hI4.alloc (.cells #[.int .i64 (eN k)] 2)
        have hI6 := hI5.append (x := eN k) (by simpa using hk6) hg6
        have p17 : ((W3.alloc (.cells #[.bool wl, .string ws, .int .i64 wn, .int .i64 wt, .bool wu] 39)).alloc (.cells #[.int .i64 (eN k)] 2)).heap[wr.heap.size]? = some (.cells #[.int .i64 (eN k), .bool (eL k), .int .i64 (eT k), .string (eS k), .int .i64 (eP k), .bool (eU k)] 33) := by
          rw [Below.heap_alloc _ _ _ (by rw [World.size_alloc]; exact Nat.lt_succ_of_lt HLT.out.2.1), Below.heap_alloc _ _ _ HLT.out.2.1]; exact HB17.out
        have p18 : ((W3.alloc (.cells #[.bool wl, .string ws, .int .i64 wn, .int .i64 wt, .bool wu] 39)).alloc (.cells #[.int .i64 (eN k)] 2)).heap[wr.heap.size + 1]? = some (.cells #[.bool (eL k), .string (eS k), .int .i64 (eP k), .int .i64 (eT k), .bool (eU k)] 39) := by
          rw [Below.heap_alloc _ _ _ (by rw [World.size_alloc]; exact Nat.lt_succ_of_lt HLT.out.2.2), Below.heap_alloc _ _ _ HLT.out.2.2]; exact HB18.out
        have q17 := (hg6.block _ (lt_of_block p17) (Ne.symm (own_ne hI5.keys p17 (by intro cs f e; cases e)))).trans p17
        have q18 := (hg6.block _ (lt_of_block p18) (Ne.symm (own_ne hI5.keys p18 (by intro cs f e; cases e)))).trans p18
        have F0' : W6.cell? ⟨wr.heap.size, 0, none⟩ = some (.int .i64 (eN k)) := by rw [cell_of q17]; rfl
        have G0' : W6.cell? ⟨wr.heap.size + 1, 0, none⟩ = some (.bool (eL k)) := by rw [cell_of q18]; rfl
        have G1' : W6.cell? ⟨wr.heap.size + 1, 1, none⟩ = some (.string (eS k)) := by rw [cell_of q18]; rfl
        have G2' : W6.cell? ⟨wr.heap.size + 1, 2, none⟩ = some (.int .i64 (eP k)) := by rw [cell_of q18]; rfl
        have G3' : W6.cell? ⟨wr.heap.size + 1, 3, none⟩ = some (.int .i64 (eT k)) := by rw [cell_of q18]; rfl
        have G4' : W6.cell? ⟨wr.heap.size + 1, 4, none⟩ = some (.bool (eU k)) := by rw [cell_of q18]; rfl
        obtain ⟨W7, hrun7, hom7, hg7⟩ := OM.put hI6.exp (by simp only [maxLen]; omega) hNk ⟨eL k, eS k, eP k, eT k, eU k⟩
        simp only [lav, lacs] at hrun7
        have hI7 := hI6.putExp hom7 hg7
        have hKK := HKN.out (hom7.tidy keyed2)
        rw [hh] at hKK
        clear hom7 hg7 hI6 hI5 hI4 hI3 hI2 hI hK p17 p18 q17 q18 hg6 hk6 F0 G0 G1 G2 G3 G4 hlk
        go_wp2
        go_roundw
        case rel => exact ⟨k + 1, ks ++ [eN k], by omega, by go_num, hI7, hKK, by simp; omega⟩
        case measure => simp [intOf]; omega
      · rw [hh] at hlk
        have hI4 := hI3.alloc (.cells #[.bool wl, .string ws, .int .i64 wn, .int .i64 wt, .bool wu] 39)
        obtain ⟨W5, hrun5, hom5, hg5⟩ := OM.put hI4.exp (by simp only [maxLen]; omega) hNk ⟨eL k, eS k, eP k, eT k, eU k⟩
        simp only [lav, lacs] at hrun5
        have hI5 := hI4.putExp hom5 hg5
        have hKK := HKN.out (hom5.tidy keyed2)
        rw [hh] at hKK
        clear hom5 hg5 hI4 hI3 hI2 hI hK
        go_wp2
        go_roundw
        case rel => exact ⟨k + 1, ks, by omega, by go_num, hI5, hKK, by omega⟩
        case measure => simp [intOf]; omega
    · have hkm : k = m := by omega
      subst hkm
      go_upto_region 20 with (fail)
      go_cut [21] (fun v wc => v = .bool false ∧ wc = wr)
      case first =>
        go_wp2
        go_meet
        case rel => exact ⟨rfl, rfl⟩
      case rest =>
        obtain ⟨rfl, rfl⟩ := hcut
        rename_i hgo
        refine hgo _ _ ?_
        apply HNEXT.out _ _ _ hI hK hks
end Go.Proofs.Yboneofku
