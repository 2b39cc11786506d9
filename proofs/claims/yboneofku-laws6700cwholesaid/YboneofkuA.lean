/-
  The law's head.
-/
import Derived.Test.YboneofkuInv
import Derived.Test.YboneofkuCut
namespace Go.Proofs.Yboneofku
open Go.RowKit

/-- what the rest of the law is asked. -/
def AtR10 (ae an : Option Addr) (n m cape capn : Nat) (S : Nat → ByteArray) (N T : Nat → Int) (St : Nat → Bool) (id : ByteArray) (nm sn : Bool) (o : Int) (w : World) : Prop :=
  ∀ (rb ob eb : Nat) (W : World), Inv w n S N T St o rb ob eb sn 0 (.map []) [] 0 (.map []) (.slice none 0 0) W → ∀ (u5 u6 u7 u8 u9 u16 u17 u18 u19 u20 u21 u22 u23 u24 u25 u26 u27 u28 u29 u30 u31 u32 u33 u34 u35 u36 u37 u38 u39 u40 u41 u42 u43 u44 u45 u46 u47 u48 u49 u50 u51 u52 u53 u54 u55 u56 u57 u58 u59 u60 u61 u62 u63 u64 u65 u66 u67 u68 u69 u70 u71 u72 u73 u74 u75 u76 u77 u78 u79 u80 u81 u82 u83 u84 u85 u86 u87 u88 u89 u90 u91 u92 u93 u94 u95 u96 u97 u98 u99 u100 u101 u102 u103 u104 u105 u106 u107 u108 u109 u110 u111 u112 u113 u114 u115 u116 u117 u118 u119 u120 u121 u122 u123 u124 u125 u126 u127 u128 u129 u130 u131 u132 u133 u134 u135 u136 u137 u138 u139 u140 u141 u142 u143 u144 u145 u146 u147 u148 u149 u150 u151 u152 u153 u154 u155 u156 u157 u158 u159 u160 u161 u162 u163 u164 u165 u166 u167 u168 u169 u170 u171 u172 u173 u174 u175 u176 u177 u178 u179 u180 u181 u182 u183 u184 u185 u186 u187 u188 u189 u190 u191 u192 u193 u194 u195 u196 u197 u198 u199 u200 u201 u202 u203 u204 u205 u206 u207 u208 u209 u210 u211 u212 u213 u214 u215 u216 u217 u218 u219 u220 u221 u222 u223 u224 u225 u226 u227 u228 u229 u230 u231 u232 u233 u234 u235 u236 u237 u238 u239 u240 u241 u242 u243 u244 u245 u246 u247 u248 u249 u250 u251 u252 u253 u254 u255 u256 u257 u258 u259 u260 u261 u262 u263 u264 u265 u266 u267 u268 u269 u270 u271 u272 u273 u274 u275 u276 u277 u278 u279 u280 u281 u282 u283 u284 u285 u286 u287 u288 u289 u290 u291 u292 u293 u294 u295 u296 u297 u298 u299 u300 u301 u302 u303 u304 u305 u306 u307 u308 u309 u310 u311 u312 u313 u314 u315 u316 u317 u318 u319 u320 : Value),
      Code.wp Ybgu.prog ((Ybgu.f3.body.bind (fromR 10)).getD .skip) (bodyPost Ybgu.prog Ybgu.f3 fun e w' => e = .returned (.bool true) ∧ Below w.heap.size w w') ⟨#[.slice ae n cape, .string id, .slice an m capn, .bool nm, .int .i64 o, u5, u6, u7, u8, u9, .bool false, .slice (some ⟨rb, 0, none⟩) n n, .pointer (some ⟨ob, 0, none⟩), .map (some eb), .slice none 0 0, .bool sn, u16, u17, u18, u19, u20, u21, u22, u23, u24, u25, u26, u27, u28, u29, u30, u31, u32, u33, u34, u35, u36, u37, u38, u39, u40, u41, u42, u43, u44, u45, u46, u47, u48, u49, u50, u51, u52, u53, u54, u55, u56, u57, u58, u59, u60, u61, u62, u63, u64, u65, u66, u67, u68, u69, u70, u71, u72, u73, u74, u75, u76, u77, u78, u79, u80, u81, u82, u83, u84, u85, u86, u87, u88, u89, u90, u91, u92, u93, u94, u95, u96, u97, u98, u99, u100, u101, u102, u103, u104, u105, u106, u107, u108, u109, u110, u111, u112, u113, u114, u115, u116, u117, u118, u119, u120, u121, u122, u123, u124, u125, u126, u127, u128, u129, u130, u131, u132, u133, u134, u135, u136, u137, u138, u139, u140, u141, u142, u143, u144, u145, u146, u147, u148, u149, u150, u151, u152, u153, u154, u155, u156, u157, u158, u159, u160, u161, u162, u163, u164, u165, u166, u167, u168, u169, u170, u171, u172, u173, u174, u175, u176, u177, u178, u179, u180, u181, u182, u183, u184, u185, u186, u187, u188, u189, u190, u191, u192, u193, u194, u195, u196, u197, u198, u199, u200, u201, u202, u203, u204, u205, u206, u207, u208, u209, u210, u211, u212, u213, u214, u215, u216, u217, u218, u219, u220, u221, u222, u223, u224, u225, u226, u227, u228, u229, u230, u231, u232, u233, u234, u235, u236, u237, u238, u239, u240, u241, u242, u243, u244, u245, u246, u247, u248, u249, u250, u251, u252, u253, u254, u255, u256, u257, u258, u259, u260, u261, u262, u263, u264, u265, u266, u267, u268, u269, u270, u271, u272, u273, u274, u275, u276, u277, u278, u279, u280, u281, u282, u283, u284, u285, u286, u287, u288, u289, u290, u291, u292, u293, u294, u295, u296, u297, u298, u299, u300, u301, u302, u303, u304, u305, u306, u307, u308, u309, u310, u311, u312, u313, u314, u315, u316, u317, u318, u319, u320], []⟩ W

theorem made_om (w : World) (b : Nat) (hb : b = w.heap.size) : OM (w.alloc (.map #[] 0)) b 0 (.map []) := by
  subst hb
  exact World.ownsMap_made w Ybgu.prog 2 laRead

set_option maxHeartbeats 4000000 in
set_option linter.unusedSimpArgs false in
set_option maxRecDepth 200000 in
theorem stageA (ae an : Option Addr) (n m cape capn : Nat) (S : Nat → ByteArray) (N T : Nat → Int) (St : Nat → Bool) (id : ByteArray) (nm sn : Bool) (o : Int) (w : World)
    (hn : n ≤ 2048) (hm : m ≤ 65536) (hsn : sn = (nm && decide (m = 0)))
    (hbld : ∀ W, Below w.heap.size w W → Calls Ybgu.prog 4 #[.slice ae n cape, .string id] W fun e w' => e = .returned (.slice (some ⟨W.heap.size, 0, none⟩) n n) ∧ w'.rowIs W.heap.size 48 (n * 20) (rowI S N T St) ∧ Below W.heap.size W w')
    (HNEXT : AtR10 ae an n m cape capn S N T St id nm sn o w) :
    Calls Ybgu.prog 3 #[.slice ae n cape, .string id, .slice an m capn, .bool nm, .int .i64 o] w fun e w' => e = .returned (.bool true) ∧ Below w.heap.size w w' := by
  have hn' : ¬ (2048 : Int) < (n : Int) := by omega
  have hm' : ¬ (65536 : Int) < (m : Int) := by omega
  have hmm : ∀ W : World, (Instr.makeMap 28 none).run Ybgu.prog W = .ok (.map (some W.heap.size)) (W.alloc (.map #[] 0)) := run_makeMap 28
  have HB : Hid (∀ W, Below w.heap.size w W → Calls Ybgu.prog 4 #[.slice ae n cape, .string id] W fun e w' => e = .returned (.slice (some ⟨W.heap.size, 0, none⟩) n n) ∧ w'.rowIs W.heap.size 48 (n * 20) (rowI S N T St) ∧ Below W.heap.size W w') := hbld
  have HSN : Hid (sn = (nm && decide (m = 0))) := hsn
  clear hbld hsn
  go_enter Ybgu.func3, Ybgu.ntmps3
  go_upto_region 7 with (go_at_call 4; refine (HB.out _ (Below.refl _ _)).mono ?_; rintro e w1 ⟨rfl, hrow, hb1⟩)
  go_cut [15] (fun v wc => v = .bool sn ∧ wc = (w1.alloc (.cells #[.int .i64 o, .slice none 0 0, .slice none 0 0, .map none] 30)).alloc (.map #[] 0))
  case first =>
    have e := HSN.out
    clear HSN
    cases nm
    · go_wp2
      go_meet
      case rel => exact ⟨by rw [e]; rfl, rfl⟩
    · by_cases hm0 : m = 0
      · subst hm0
        go_wp2
        go_meet
        case rel => exact ⟨by rw [e]; rfl, rfl⟩
      · have hm0' : ((m : Int) == 0) = false := by simp; omega
        go_wp2
        go_meet
        case rel => exact ⟨by rw [e]; simp [hm0], rfl⟩
  case rest =>
  obtain ⟨rfl, rfl⟩ := hcut
  have hr1 := hrow.lt
  have HROW : Hid (w1.rowIs w.heap.size 48 (n * 20) (rowI S N T St)) := hrow
  clear hrow
  go_upto_if 61 with (fail)
  go_cut [] (fun wc => Inv w n S N T St o w.heap.size w1.heap.size (w1.heap.size + 1) sn 0 (.map []) [] 0 (.map []) (.slice none 0 0) wc)
  case first =>
    have hz := hb1.size
    cases sn
    · go_wp2
      go_meet
      case rel =>
        have hob : (((w1.alloc (.cells #[.int .i64 o, .slice none 0 0, .slice none 0 0, .map (some (w1.heap.size + 1 + 1))] 30)).alloc (.map #[] 0)).alloc (.map #[] 0)).heap[w1.heap.size]? = some (.cells #[.int .i64 o, .slice none 0 0, .slice none 0 0, .map (some (w1.heap.size + 1 + 1))] 30) := by
          rw [Below.heap_alloc _ _ _ (by rw [World.size_alloc, World.size_alloc]; omega), Below.heap_alloc _ _ _ (by rw [World.size_alloc]; omega)]; exact heap_alloc_new' w1 _
        exact ⟨World.ownsRow_nil _ _ _ _, (made_om (w1.alloc (.cells #[.int .i64 o, .slice none 0 0, .slice none 0 0, .map (some (w1.heap.size + 1 + 1))] 30)) (w1.heap.size + 1) (by rw [World.size_alloc])).alloc _, .inr ⟨rfl, w1.heap.size + 1 + 1, by rw [cell_of hob]; rfl, made_om _ _ (by rw [World.size_alloc, World.size_alloc])⟩, ⟨_, hob, by simp, fun mb e => by simp at e; omega⟩, ((HROW.out.alloc _).alloc _).alloc _, ((hb1.alloc hb1.size _).alloc (by rw [World.size_alloc]; omega) _).alloc (by rw [World.size_alloc, World.size_alloc]; omega) _, ⟨Nat.le_refl _, hz, by omega⟩⟩
    · go_wp2
      go_meet
      case rel =>
        have hob : ((w1.alloc (.cells #[.int .i64 o, .slice none 0 0, .slice none 0 0, .map none] 30)).alloc (.map #[] 0)).heap[w1.heap.size]? = some (.cells #[.int .i64 o, .slice none 0 0, .slice none 0 0, .map none] 30) := by
          rw [Below.heap_alloc _ _ _ (by rw [World.size_alloc]; omega)]; exact heap_alloc_new' w1 _
        exact ⟨World.ownsRow_nil _ _ _ _, made_om _ _ (by rw [World.size_alloc]), .inl ⟨rfl, by rw [cell_of hob]; rfl, rfl⟩, ⟨_, hob, by simp, fun mb e => by simp at e⟩, (HROW.out.alloc _).alloc _, (hb1.alloc hb1.size _).alloc (by rw [World.size_alloc]; omega) _, ⟨Nat.le_refl _, hz, by omega⟩⟩
  case rest =>
  rename_i hgo
  refine hgo _ _ ?_
  unfold AtR10 at HNEXT
  apply HNEXT _ _ _ _ hcut


set_option maxRecDepth 200000 in
theorem law_big1 (a0 a1 a2 a3 a4 : Value) (ae : Option Addr) (n cape : Nat) (w : World) (h0 : a0 = .slice ae n cape) (h : 2048 < n) :
    Calls Ybgu.prog 3 #[a0, a1, a2, a3, a4] w fun e w' => e = .returned (.bool true) ∧ Below w.heap.size w w' := by
  have h' : (2048 : Int) < (n : Int) := by omega
  subst h0
  go_enter Ybgu.func3, Ybgu.ntmps3
  go_wp2
  go_ret
  exact ⟨rfl, Below.refl _ _⟩
set_option maxRecDepth 200000 in
theorem law_big2 (a1 a3 a4 : Value) (ae an : Option Addr) (n cape m capn : Nat) (w : World) (hn : n ≤ 2048) (h : 65536 < m) :
    Calls Ybgu.prog 3 #[.slice ae n cape, a1, .slice an m capn, a3, a4] w fun e w' => e = .returned (.bool true) ∧ Below w.heap.size w w' := by
  have h1 : ¬ (2048 : Int) < (n : Int) := by omega
  have h' : (65536 : Int) < (m : Int) := by omega
  go_enter Ybgu.func3, Ybgu.ntmps3
  go_wp2
  go_ret
  exact ⟨rfl, Below.refl _ _⟩
end Go.Proofs.Yboneofku
