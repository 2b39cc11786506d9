/-
  The law's comparisons behind the call, and the loop over the keys.
-/
import Derived.Test.YboneofkuC
namespace Go.Proofs.Yboneofku
open Go.RowKit

set_option maxHeartbeats 4000000 in
set_option linter.unusedSimpArgs false in
set_option maxRecDepth 20000 in
theorem stageD (ae an : Option Addr) (n m cape capn : Nat) (S : Nat → ByteArray) (N T : Nat → Int) (St : Nat → Bool) (id : ByteArray) (nm sn : Bool) (o : Int) (rb ob eb : Nat) (w : World) (D : DataW LA) (c : Nat) (ks : List Int) (kv : Value) (W : World) (ha : Aft w n S N T St o rb ob eb (sn && noown id S n) c D ks kv W) (hK : KeysOK ks D) (hks : ks.length ≤ 131072)
    (hbld : ∀ X, Below w.heap.size w X → Calls Ybgu.prog 4 #[.slice ae n cape, .string id] X fun e w' => e = .returned (.slice (some ⟨X.heap.size, 0, none⟩) n n) ∧ w'.rowIs X.heap.size 48 (n * 20) (rowI S N T St) ∧ Below X.heap.size X w')
    (HNEXT : Hid (∀ (rb2 : Nat) (W : World), W.rowIs rb 48 (n * 20) (rowI S N T St) → W.rowIs rb2 48 (n * 20) (rowI S N T St) → Below w.heap.size w W → ∀ (u5 u6 u7 u8 u9 u10 u14 u16 u17 u18 u19 u20 u21 u22 u23 u24 u25 u26 u27 u28 u29 u30 u31 u32 u33 u34 u35 u36 u38 u39 u40 u41 u42 u43 u44 u45 u46 u47 u48 u49 u50 u51 u52 u53 u54 u55 u56 u57 u58 u59 u60 u61 u62 u63 u64 u65 u66 u67 u68 u69 u70 u71 u72 u73 u74 u75 u76 u77 u78 u79 u80 u81 u82 u83 u84 u85 u86 u87 u88 u89 u90 u91 u92 u93 u94 u95 u96 u97 u98 u99 u100 u101 u102 u103 u104 u105 u106 u107 u108 u109 u110 u111 u112 u113 u114 u115 u116 u117 u118 u119 u120 u121 u122 u123 u124 u125 u126 u127 u128 u129 u130 u131 u132 u133 u134 u135 u136 u137 u138 u139 u140 u141 u142 u143 u144 u145 u146 u147 u148 u149 u150 u151 u152 u153 u154 u155 u156 u157 u158 u159 u160 u161 u162 u163 u164 u165 u166 u167 u168 u169 u170 u171 u172 u173 u174 u175 u176 u177 u178 u179 u180 u181 u182 u183 u184 u185 u186 u187 u188 u189 u190 u191 u192 u193 u194 u195 u196 u197 u198 u199 u200 u201 u202 u203 u204 u205 u206 u207 u208 u209 u210 u211 u212 u213 u214 u215 u216 u217 u218 u219 u220 u221 u222 u223 u224 u225 u226 u227 u228 u229 u230 u231 u232 u233 u234 u235 u236 u237 u238 u239 u240 u241 u242 u243 u244 u245 u246 u247 u248 u249 u250 u251 u252 u253 u254 u255 u256 u257 u258 u259 u260 u261 u262 u263 u264 u265 u266 u267 u268 u269 u270 u271 u272 u273 u274 u275 u276 u277 u278 u279 u280 u281 u282 u283 u284 u285 u286 u287 u288 u289 u290 u291 u292 u293 u294 u295 u296 u297 u298 u299 u300 u301 u302 u303 u304 u305 u306 u307 u308 u309 u310 u311 u312 u313 u314 u315 u316 u317 u318 u319 u320 : Value),
      Code.wp Ybgu.prog ((Ybgu.f3.body.bind (fromR 70)).getD .skip) (bodyPost Ybgu.prog Ybgu.f3 fun e w' => e = .returned (.bool true) ∧ Below w.heap.size w w') ⟨#[.slice ae n cape, .string id, .slice an m capn, .bool nm, .int .i64 o, u5, u6, u7, u8, u9, u10, .slice (some ⟨rb, 0, none⟩) n n, .pointer (some ⟨ob, 0, none⟩), .map (some eb), u14, .bool sn, u16, u17, u18, u19, u20, u21, u22, u23, u24, u25, u26, u27, u28, u29, u30, u31, u32, u33, u34, u35, u36, .slice (some ⟨rb2, 0, none⟩) n n, u38, u39, u40, u41, u42, u43, u44, u45, u46, u47, u48, u49, u50, u51, u52, u53, u54, u55, u56, u57, u58, u59, u60, u61, u62, u63, u64, u65, u66, u67, u68, u69, u70, u71, u72, u73, u74, u75, u76, u77, u78, u79, u80, u81, u82, u83, u84, u85, u86, u87, u88, u89, u90, u91, u92, u93, u94, u95, u96, u97, u98, u99, u100, u101, u102, u103, u104, u105, u106, u107, u108, u109, u110, u111, u112, u113, u114, u115, u116, u117, u118, u119, u120, u121, u122, u123, u124, u125, u126, u127, u128, u129, u130, u131, u132, u133, u134, u135, u136, u137, u138, u139, u140, u141, u142, u143, u144, u145, u146, u147, u148, u149, u150, u151, u152, u153, u154, u155, u156, u157, u158, u159, u160, u161, u162, u163, u164, u165, u166, u167, u168, u169, u170, u171, u172, u173, u174, u175, u176, u177, u178, u179, u180, u181, u182, u183, u184, u185, u186, u187, u188, u189, u190, u191, u192, u193, u194, u195, u196, u197, u198, u199, u200, u201, u202, u203, u204, u205, u206, u207, u208, u209, u210, u211, u212, u213, u214, u215, u216, u217, u218, u219, u220, u221, u222, u223, u224, u225, u226, u227, u228, u229, u230, u231, u232, u233, u234, u235, u236, u237, u238, u239, u240, u241, u242, u243, u244, u245, u246, u247, u248, u249, u250, u251, u252, u253, u254, u255, u256, u257, u258, u259, u260, u261, u262, u263, u264, u265, u266, u267, u268, u269, u270, u271, u272, u273, u274, u275, u276, u277, u278, u279, u280, u281, u282, u283, u284, u285, u286, u287, u288, u289, u290, u291, u292, u293, u294, u295, u296, u297, u298, u299, u300, u301, u302, u303, u304, u305, u306, u307, u308, u309, u310, u311, u312, u313, u314, u315, u316, u317, u318, u319, u320], []⟩ W))
    (u5 u6 u7 u8 u9 u16 u17 u18 u19 u20 u22 u23 u24 u25 u26 u27 u28 u29 u30 u31 u32 u33 u34 u35 u36 u37 u38 u39 u40 u41 u42 u43 u44 u45 u46 u47 u48 u49 u50 u51 u52 u53 u54 u55 u56 u57 u58 u59 u60 u61 u62 u63 u64 u65 u66 u67 u68 u69 u70 u71 u72 u73 u74 u75 u76 u77 u78 u79 u80 u81 u82 u83 u84 u85 u86 u87 u88 u89 u90 u91 u92 u93 u94 u95 u96 u97 u98 u99 u100 u101 u102 u103 u104 u105 u106 u107 u108 u109 u110 u111 u112 u113 u114 u115 u116 u117 u118 u119 u120 u121 u122 u123 u124 u125 u126 u127 u128 u129 u130 u131 u132 u133 u134 u135 u136 u137 u138 u139 u140 u141 u142 u143 u144 u145 u146 u147 u148 u149 u150 u151 u152 u153 u154 u155 u156 u157 u158 u159 u160 u161 u162 u163 u164 u165 u166 u167 u168 u169 u170 u171 u172 u173 u174 u175 u176 u177 u178 u179 u180 u181 u182 u183 u184 u185 u186 u187 u188 u189 u190 u191 u192 u193 u194 u195 u196 u197 u198 u199 u200 u201 u202 u203 u204 u205 u206 u207 u208 u209 u210 u211 u212 u213 u214 u215 u216 u217 u218 u219 u220 u221 u222 u223 u224 u225 u226 u227 u228 u229 u230 u231 u232 u233 u234 u235 u236 u237 u238 u239 u240 u241 u242 u243 u244 u245 u246 u247 u248 u249 u250 u251 u252 u253 u254 u255 u256 u257 u258 u259 u260 u261 u262 u263 u264 u265 u266 u267 u268 u269 u270 u271 u272 u273 u274 u275 u276 u277 u278 u279 u280 u281 u282 u283 u284 u285 u286 u287 u288 u289 u290 u291 u292 u293 u294 u295 u296 u297 u298 u299 u300 u301 u302 u303 u304 u305 u306 u307 u308 u309 u310 u311 u312 u313 u314 u315 u316 u317 u318 u319 u320 : Value) :
    Code.wp Ybgu.prog ((Ybgu.f3.body.bind (fromR 56)).getD .skip) (bodyPost Ybgu.prog Ybgu.f3 fun e w' => e = .returned (.bool true) ∧ Below w.heap.size w w') ⟨#[.slice ae n cape, .string id, .slice an m capn, .bool nm, .int .i64 o, u5, u6, u7, u8, u9, .bool false, .slice (some ⟨rb, 0, none⟩) n n, .pointer (some ⟨ob, 0, none⟩), .map (some eb), kv, .bool sn, u16, u17, u18, u19, u20, .bool (!noown id S n), u22, u23, u24, u25, u26, u27, u28, u29, u30, u31, u32, u33, u34, u35, u36, u37, u38, u39, u40, u41, u42, u43, u44, u45, u46, u47, u48, u49, u50, u51, u52, u53, u54, u55, u56, u57, u58, u59, u60, u61, u62, u63, u64, u65, u66, u67, u68, u69, u70, u71, u72, u73, u74, u75, u76, u77, u78, u79, u80, u81, u82, u83, u84, u85, u86, u87, u88, u89, u90, u91, u92, u93, u94, u95, u96, u97, u98, u99, u100, u101, u102, u103, u104, u105, u106, u107, u108, u109, u110, u111, u112, u113, u114, u115, u116, u117, u118, u119, u120, u121, u122, u123, u124, u125, u126, u127, u128, u129, u130, u131, u132, u133, u134, u135, u136, u137, u138, u139, u140, u141, u142, u143, u144, u145, u146, u147, u148, u149, u150, u151, u152, u153, u154, u155, u156, u157, u158, u159, u160, u161, u162, u163, u164, u165, u166, u167, u168, u169, u170, u171, u172, u173, u174, u175, u176, u177, u178, u179, u180, u181, u182, u183, u184, u185, u186, u187, u188, u189, u190, u191, u192, u193, u194, u195, u196, u197, u198, u199, u200, u201, u202, u203, u204, u205, u206, u207, u208, u209, u210, u211, u212, u213, u214, u215, u216, u217, u218, u219, u220, u221, u222, u223, u224, u225, u226, u227, u228, u229, u230, u231, u232, u233, u234, u235, u236, u237, u238, u239, u240, u241, u242, u243, u244, u245, u246, u247, u248, u249, u250, u251, u252, u253, u254, u255, u256, u257, u258, u259, u260, u261, u262, u263, u264, u265, u266, u267, u268, u269, u270, u271, u272, u273, u274, u275, u276, u277, u278, u279, u280, u281, u282, u283, u284, u285, u286, u287, u288, u289, u290, u291, u292, u293, u294, u295, u296, u297, u298, u299, u300, u301, u302, u303, u304, u305, u306, u307, u308, u309, u310, u311, u312, u313, u314, u315, u316, u317, u318, u319, u320], []⟩ W := by
  conv => arg 2; whnf
  have HB : Hid (∀ X, Below w.heap.size w X → Calls Ybgu.prog 4 #[.slice ae n cape, .string id] X fun e w' => e = .returned (.slice (some ⟨X.heap.size, 0, none⟩) n n) ∧ w'.rowIs X.heap.size 48 (n * 20) (rowI S N T St) ∧ Below X.heap.size X w') := hbld
  clear hbld
  obtain ⟨mv, hob⟩ := ha.own
  have hol := lt_of_block hob
  have d3 : W.cell? ⟨ob, 3, none⟩ = some mv := by rw [cell_of hob]; rfl
  have hkv : ∃ (ka : Option Addr) (kc : Nat), kv = .slice ka ks.length kc ∧ (0 < ks.length → ∃ g, ka = some ⟨g, 0, none⟩ ∧ g < W.heap.size ∧ ∀ q, q < ks.length → W.cell? ⟨g, q, none⟩ = some (.int .i64 (ks.getD q 0))) := by
    have hkk := ha.keys
    rcases ha.keys.2 with ⟨h1, h2⟩ | ⟨g, cap, cur, h1, _, h3, _⟩
    · exact ⟨none, 0, by rw [h1, h2], fun h => by omega⟩
    · refine ⟨_, cap, h1, fun _ => ⟨g, rfl, lt_of_block h3, fun q hq => ?_⟩⟩
      rw [h1] at hkk
      rw [hkk.cellAt q (by omega)]
      simp [hq]
  obtain ⟨ka, kc, rfl, hkc⟩ := hkv
  have HKC : Hid (0 < ks.length → ∃ g, ka = some ⟨g, 0, none⟩ ∧ g < W.heap.size ∧ ∀ q, q < ks.length → W.cell? ⟨g, q, none⟩ = some (.int .i64 (ks.getD q 0))) := hkc
  clear hkc
  obtain ⟨nk, hnk⟩ : ∃ nk, nk = (sn && noown id S n) := ⟨_, rfl⟩
  have hsh := ha.shown
  rw [← hnk] at hsh
  have hmb : ∀ b, nk = b → (b = true ∧ mv = .map none ∧ D = .map []) ∨ (b = false ∧ ∃ mb, mv = .map (some mb) ∧ OM W mb c D) := by
    intro b hb
    rcases hsh with ⟨h1, h2, h3⟩ | ⟨h1, mb, h2, h3⟩
    · exact .inl ⟨by rw [← hb, h1], by rw [d3] at h2; exact Option.some.inj h2, h3⟩
    · exact .inr ⟨by rw [← hb, h1], mb, by rw [d3] at h2; exact Option.some.inj h2, h3⟩
  have hnb : ∀ X : World, (binOp .eql 28 mv (.map none)).run Ybgu.prog X = .ok (.bool nk) X := by
    intro X
    rcases hmb nk rfl with ⟨h1, h2, _⟩ | ⟨h1, mb, h2, _⟩
    · rw [h1, h2]; kernel_rfl
    · rw [h1, h2]; kernel_rfl
  have hng : ∀ X : World, (eqGuard .eql 28 (.tmp 224) (.const (.map none)) mv (.map none)).run Ybgu.prog X = .ok () X := by
    intro X
    rcases hmb nk rfl with ⟨h1, h2, _⟩ | ⟨h1, mb, h2, _⟩
    · rw [h2]; kernel_rfl
    · rw [h2]; kernel_rfl
  have hlen : ∀ ty, (Builtin.len_ #[28] ty #[mv]).run Ybgu.prog W = .ok (.int .i64 (ks.length : Int)) W := by
    intro ty
    rcases hmb nk rfl with ⟨h1, h2, h3⟩ | ⟨h1, mb, h2, h3⟩
    · rw [h2, Maps.len_nil Ybgu.underlying28, hK.1, h3]; rfl
    · rw [h2, World.ownsMap.len h3 Ybgu.underlying28, hK.1]
  have HLEN : Hid (∀ ty, (Builtin.len_ #[28] ty #[mv]).run Ybgu.prog W = .ok (.int .i64 (ks.length : Int)) W) := hlen
  have HMB : Hid (∀ b, nk = b → (b = true ∧ mv = .map none ∧ D = .map []) ∨ (b = false ∧ ∃ mb, mv = .map (some mb) ∧ OM W mb c D)) := hmb
  clear hlen hmb hsh
  conv => arg 4; dsimp only
  go_upto_region 56 with (fail)
  go_cut [231] (fun v wc => v = .bool false ∧ wc = W)
  case first =>
    cases sn
    · simp only [Bool.false_and] at hnk
      subst hnk
      go_wp2
      go_meet
      case rel => exact ⟨rfl, rfl⟩
    · simp only [Bool.true_and] at hnk
      have hnn : (!(!noown id S n)) = nk := by rw [hnk]; simp
      generalize noown id S n = nn at *
      subst hnk
      cases nk
      · go_wp2
        go_meet
        case rel => exact ⟨rfl, rfl⟩
      · go_wp2
        go_meet
        case rel => exact ⟨rfl, rfl⟩
  case rest =>
  obtain ⟨rfl, rfl⟩ := hcut
  rename World => W
  clear hnb hng
  have HNK : Hid (nk = (sn && noown id S n)) := hnk
  clear hnk
  rename_i hgo
  refine hgo _ _ ?_
  clear hgo
  have hlen3 := HLEN.out 3
  have HA : Hid (Aft w n S N T St o rb ob eb (sn && noown id S n) c D ks (.slice ka ks.length kc) W) := ha
  clear ha
  go_wp2
  clear hlen3
  go_loopw [242] (fun i wr => ∃ q : Nat, q ≤ ks.length ∧ i = .int .i64 q ∧ Below W.heap.size W wr) (fun i _ => ks.length - (intOf i).toNat)
  case atStart => exact ⟨0, Nat.zero_le _, rfl, Below.refl _ _⟩
  case round =>
    obtain ⟨q, hq, rfl, hbq⟩ := hrel
    by_cases hlt : q < ks.length
    · obtain ⟨g, rfl, hg, hcell⟩ := HKC.out (by omega)
      have hkq := (hbq.cell (p := ⟨g, q, none⟩) hg).trans (hcell q hlt)
      obtain ⟨x, hx⟩ : ∃ x, x = ks.getD q 0 := ⟨_, rfl⟩
      have hmem : x ∈ ks := by rw [hx]; simp [List.getD, hlt]
      rw [← hx] at hkq
      obtain ⟨hhas, hwf⟩ := hK.2.1 x hmem
      have hmb2 : ∃ mb, mv = .map (some mb) ∧ OM W mb c D := by
        rcases HMB.out nk rfl with ⟨_, _, h3⟩ | ⟨_, h⟩
        · have := hK.1
          rw [h3] at this
          have h0 : ks.length = 0 := this
          omega
        · exact h
      obtain ⟨mb, rfl, hom⟩ := hmb2
      have d3q : wr.cell? ⟨ob, 3, none⟩ = some (.map (some mb)) := (hbq.cell (p := ⟨ob, 3, none⟩) hol).trans d3
      have hl1 := OM.look_ok (OM.of_block hom (hbq.block _ hom.lt)) hwf
      rw [hhas] at hl1
      have hexq : OM wr eb c D := OM.of_block HA.out.exp (hbq.block _ HA.out.exp.lt)
      obtain ⟨la, hla⟩ : ∃ la, la = laAt D x := ⟨_, rfl⟩
      rw [← hla] at hl1
      have hl2 : ∀ X : Obj, (Instr.lookup 28 (.map (some eb)) (.int .i64 x) false).run Ybgu.prog (wr.alloc X) = .ok (lav la) (wr.alloc X) := fun X => by rw [hla]; exact OM.look (hexq.alloc X) hwf
      obtain ⟨l1, l2, l3, l4, l5⟩ := la
      simp only [lav, lacs] at hl1 hl2
      clear hx hmem hhas hla hexq hom hcell d3 hob
      go_wp2
      go_roundw
      case rel => exact ⟨q + 1, by omega, by go_num, hbq.alloc hbq.size _⟩
      case measure => simp [intOf]; omega
    · have hqn : q = ks.length := by omega
      clear hlt
      subst hqn
      have hobq : wr.heap[ob]? = some (.cells #[.int .i64 o, .slice none 0 0, .slice none 0 0, mv] 30) := (hbq.block _ hol).trans hob
      have o0 : wr.cell? ⟨ob, 0, none⟩ = some (.int .i64 o) := by rw [cell_of hobq]; rfl
      have o1 : wr.cell? ⟨ob, 1, none⟩ = some (.slice none 0 0) := by rw [cell_of hobq]; rfl
      have o2 : wr.cell? ⟨ob, 2, none⟩ = some (.slice none 0 0) := by rw [cell_of hobq]; rfl
      have hBw : Below w.heap.size w wr := HA.out.bel.trans (hbq.mono HA.out.bel.size)
      have hrw : wr.rowIs rb 48 (n * 20) (rowI S N T St) := rowIs_of_block HA.out.row (hbq.block _ HA.out.row.lt)
      clear hob hobq
      go_upto_region 69 with (fail)
      go_cut [37] (fun v wc => ∃ rb2, v = .slice (some ⟨rb2, 0, none⟩) n n ∧ wc.rowIs rb 48 (n * 20) (rowI S N T St) ∧ wc.rowIs rb2 48 (n * 20) (rowI S N T St) ∧ Below w.heap.size w wc)
      case first =>
        go_wp2_with (go_at_call 4; refine (HB.out _ hBw).mono ?_; rintro e w7 ⟨rfl, hr7, hb7⟩)
        rename (Ending.returned _ = Ending.returned _) => heq
        cases heq
        go_meet
        case rel => exact ⟨wr.heap.size, rfl, rowIs_of_block hrw (hb7.block _ hrw.lt), hr7, hBw.trans (hb7.mono hBw.size)⟩
      case rest =>
        obtain ⟨rb2, rfl, h1, h2, h3⟩ := hcut
        rename_i hgo
        refine hgo _ _ ?_
        apply HNEXT.out _ _ h1 h2 h3
end Go.Proofs.Yboneofku
