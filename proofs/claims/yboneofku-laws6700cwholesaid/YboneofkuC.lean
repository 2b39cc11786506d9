/-
  The law's loop over the elements, and the call.
-/
import Derived.Test.YboneofkuNote
import Derived.Test.YboneofkuCut
namespace Go.Proofs.Yboneofku
open Go.RowKit

theorem Ybgu.info2' : (Ybgu.prog.info? 2).map (fun i => (i.zero, i.size, i.bytes)) = some (some (.int .i64 0), 1, 8) := by kernel_rfl

/-- behind the call. -/
structure Aft (w0 : World) (n : Nat) (S : Nat → ByteArray) (N T : Nat → Int) (St : Nat → Bool) (o : Int) (rb ob eb : Nat) (nilp : Bool) (c : Nat) (D : DataW LA) (ks : List Int) (kv : Value) (W : World) : Prop where
  keys : W.ownsRow w0.heap.size 2 1 kv ks.length (ks.map (Value.int .i64))
  exp : OM W eb c D
  shown : ShownIs W ob c D nilp
  own : ∃ mv, W.heap[ob]? = some (.cells #[.int .i64 o, .slice none 0 0, .slice none 0 0, mv] 30)
  row : W.rowIs rb 48 (n * 20) (rowI S N T St)
  bel : Below w0.heap.size w0 W

theorem aft_of {w0 : World} {n : Nat} {S : Nat → ByteArray} {N T : Nat → Int} {St : Nat → Bool} {o : Int} {rb ob eb : Nat} {sn nilp : Bool} {c0 c : Nat} {D0 D : DataW LA} {ks : List Int} {kv mv : Value} {wr w6 : World}
    (hI : Inv w0 n S N T St o rb ob eb sn c0 D0 ks c D kv wr) (hob : wr.heap[ob]? = some (.cells #[.int .i64 o, .slice none 0 0, .slice none 0 0, mv] 30)) (hmv1 : mv ≠ .map (some eb)) (hmv2 : ∀ mb, mv = .map (some mb) → w0.heap.size ≤ mb)
    (hsh : ShownIs w6 ob c D nilp) (how : ∃ mv', w6.heap[ob]? = some (.cells #[.int .i64 o, .slice none 0 0, .slice none 0 0, mv'] 30)) (hkp : Kp (fun k => k = ob ∨ mv = .map (some k)) wr w6) : Aft w0 n S N T St o rb ob eb nilp c D ks kv w6 := by
  have hmap : ∀ b x, wr.heap[b]? = some x → (∀ es c, x ≠ .map es c) → mv ≠ .map (some b) := by
    rintro b x hb hx rfl
    rcases hI.shown with ⟨_, a2, _⟩ | ⟨_, mb, a2, a3⟩
    · rw [cell_of hob] at a2; cases a2
    · rw [cell_of hob] at a2
      have e : b = mb := by simpa using a2
      subst e
      obtain ⟨es, c, h1, _⟩ := a3
      rw [hb] at h1
      cases h1
      exact hx _ _ rfl
  obtain ⟨rc, hrc, _⟩ := hI.row
  obtain ⟨es, cl, hes, _⟩ := hI.exp
  have neo : eb ≠ ob := by rintro rfl; rw [hob] at hes; cases hes
  have neb : rb ≠ ob := by rintro rfl; rw [hob] at hrc; cases hrc
  refine ⟨⟨hI.keys.1, ?_⟩, OM.of_block hI.exp (hkp.block eb hI.lts.2.2 (fun h => h.elim neo hmv1)), hsh, how, rowIs_of_block hI.row (hkp.block rb hI.lts.1 (fun h => h.elim neb (hmap _ _ hrc (by intro _ _ e; cases e)))), ?_⟩
  · rcases hI.keys.2 with h | ⟨g, cap, cur, hv, hg1, hg2, hg3⟩
    · exact .inl h
    · refine .inr ⟨g, cap, cur, hv, hg1, ?_, hg3⟩
      rw [hkp.block g (lt_of_block hg2) ?_]
      · exact hg2
      · rintro (h | h)
        · subst h; rw [hob] at hg2; cases hg2
        · exact hmap _ _ hg2 (by intro _ _ e; cases e) h
  · refine hI.bel.trans (hkp.to_below hI.bel.size ?_)
    rintro b hb (h | h)
    · have := hI.low.2.1; omega
    · have := hmv2 b h; omega

theorem rowI_at (S : Nat → ByteArray) (N T : Nat → Int) (St : Nat → Bool) (k j : Nat) (hj : j < 20) : rowI S N T St (k * 20 + j) = icell (St k) (T k) (S k) (N k) j := by
  have e1 : (k * 20 + j) / 20 = k := by omega
  have e2 : (k * 20 + j) % 20 = j := by omega
  rw [rowI, e1, e2]

set_option maxHeartbeats 4000000 in
set_option linter.unusedSimpArgs false in
set_option maxRecDepth 20000 in
theorem stageC (ae an : Option Addr) (n m cape capn : Nat) (S : Nat → ByteArray) (N T : Nat → Int) (St : Nat → Bool) (id : ByteArray) (nm sn : Bool) (o : Int) (rb ob eb : Nat) (w : World) (D0 : DataW LA) (c0 : Nat) (ks0 : List Int) (kv0 : Value) (hn : n ≤ 2048) (hc0 : c0 ≤ 65536) (hN : ∀ j, j < n → Wf (N j)) (W : World)
    (hinv : Inv w n S N T St o rb ob eb sn c0 D0 ks0 c0 D0 kv0 W) (hK0 : KeysOK ks0 D0) (hks0 : ks0.length ≤ 65536)
    (HNEXT : Hid (∀ (kv : Value) (ks : List Int) (W : World), Aft w n S N T St o rb ob eb (sn && noown id S n) (c0 + n) (Dn id S N T St D0 n) ks kv W → KeysOK ks (Dn id S N T St D0 n) → ks.length ≤ 131072 → ∀ (u5 u6 u7 u8 u9 u16 u17 u18 u19 u20 u22 u23 u24 u25 u26 u27 u28 u29 u30 u31 u32 u33 u34 u35 u36 u37 u38 u39 u40 u41 u42 u43 u44 u45 u46 u47 u48 u49 u50 u51 u52 u53 u54 u55 u56 u57 u58 u59 u60 u61 u62 u63 u64 u65 u66 u67 u68 u69 u70 u71 u72 u73 u74 u75 u76 u77 u78 u79 u80 u81 u82 u83 u84 u85 u86 u87 u88 u89 u90 u91 u92 u93 u94 u95 u96 u97 u98 u99 u100 u101 u102 u103 u104 u105 u106 u107 u108 u109 u110 u111 u112 u113 u114 u115 u116 u117 u118 u119 u120 u121 u122 u123 u124 u125 u126 u127 u128 u129 u130 u131 u132 u133 u134 u135 u136 u137 u138 u139 u140 u141 u142 u143 u144 u145 u146 u147 u148 u149 u150 u151 u152 u153 u154 u155 u156 u157 u158 u159 u160 u161 u162 u163 u164 u165 u166 u167 u168 u169 u170 u171 u172 u173 u174 u175 u176 u177 u178 u179 u180 u181 u182 u183 u184 u185 u186 u187 u188 u189 u190 u191 u192 u193 u194 u195 u196 u197 u198 u199 u200 u201 u202 u203 u204 u205 u206 u207 u208 u209 u210 u211 u212 u213 u214 u215 u216 u217 u218 u219 u220 u221 u222 u223 u224 u225 u226 u227 u228 u229 u230 u231 u232 u233 u234 u235 u236 u237 u238 u239 u240 u241 u242 u243 u244 u245 u246 u247 u248 u249 u250 u251 u252 u253 u254 u255 u256 u257 u258 u259 u260 u261 u262 u263 u264 u265 u266 u267 u268 u269 u270 u271 u272 u273 u274 u275 u276 u277 u278 u279 u280 u281 u282 u283 u284 u285 u286 u287 u288 u289 u290 u291 u292 u293 u294 u295 u296 u297 u298 u299 u300 u301 u302 u303 u304 u305 u306 u307 u308 u309 u310 u311 u312 u313 u314 u315 u316 u317 u318 u319 u320 : Value),
      Code.wp Ybgu.prog ((Ybgu.f3.body.bind (fromR 56)).getD .skip) (bodyPost Ybgu.prog Ybgu.f3 fun e w' => e = .returned (.bool true) ∧ Below w.heap.size w w') ⟨#[.slice ae n cape, .string id, .slice an m capn, .bool nm, .int .i64 o, u5, u6, u7, u8, u9, .bool false, .slice (some ⟨rb, 0, none⟩) n n, .pointer (some ⟨ob, 0, none⟩), .map (some eb), kv, .bool sn, u16, u17, u18, u19, u20, .bool (!noown id S n), u22, u23, u24, u25, u26, u27, u28, u29, u30, u31, u32, u33, u34, u35, u36, u37, u38, u39, u40, u41, u42, u43, u44, u45, u46, u47, u48, u49, u50, u51, u52, u53, u54, u55, u56, u57, u58, u59, u60, u61, u62, u63, u64, u65, u66, u67, u68, u69, u70, u71, u72, u73, u74, u75, u76, u77, u78, u79, u80, u81, u82, u83, u84, u85, u86, u87, u88, u89, u90, u91, u92, u93, u94, u95, u96, u97, u98, u99, u100, u101, u102, u103, u104, u105, u106, u107, u108, u109, u110, u111, u112, u113, u114, u115, u116, u117, u118, u119, u120, u121, u122, u123, u124, u125, u126, u127, u128, u129, u130, u131, u132, u133, u134, u135, u136, u137, u138, u139, u140, u141, u142, u143, u144, u145, u146, u147, u148, u149, u150, u151, u152, u153, u154, u155, u156, u157, u158, u159, u160, u161, u162, u163, u164, u165, u166, u167, u168, u169, u170, u171, u172, u173, u174, u175, u176, u177, u178, u179, u180, u181, u182, u183, u184, u185, u186, u187, u188, u189, u190, u191, u192, u193, u194, u195, u196, u197, u198, u199, u200, u201, u202, u203, u204, u205, u206, u207, u208, u209, u210, u211, u212, u213, u214, u215, u216, u217, u218, u219, u220, u221, u222, u223, u224, u225, u226, u227, u228, u229, u230, u231, u232, u233, u234, u235, u236, u237, u238, u239, u240, u241, u242, u243, u244, u245, u246, u247, u248, u249, u250, u251, u252, u253, u254, u255, u256, u257, u258, u259, u260, u261, u262, u263, u264, u265, u266, u267, u268, u269, u270, u271, u272, u273, u274, u275, u276, u277, u278, u279, u280, u281, u282, u283, u284, u285, u286, u287, u288, u289, u290, u291, u292, u293, u294, u295, u296, u297, u298, u299, u300, u301, u302, u303, u304, u305, u306, u307, u308, u309, u310, u311, u312, u313, u314, u315, u316, u317, u318, u319, u320], []⟩ W))
    (u5 u6 u7 u8 u9 u16 u17 u18 u19 u20 u22 u23 u24 u25 u26 u27 u28 u29 u30 u31 u32 u33 u34 u35 u36 u37 u38 u39 u40 u41 u42 u43 u44 u45 u46 u47 u48 u49 u50 u51 u52 u53 u54 u55 u56 u57 u58 u59 u60 u61 u62 u63 u64 u65 u66 u67 u68 u69 u70 u71 u72 u73 u74 u75 u76 u77 u78 u79 u80 u81 u82 u83 u84 u85 u86 u87 u88 u89 u90 u91 u92 u93 u94 u95 u96 u97 u98 u99 u100 u101 u102 u103 u104 u105 u106 u107 u108 u109 u110 u111 u112 u113 u114 u115 u116 u117 u118 u119 u120 u121 u122 u123 u124 u125 u126 u127 u128 u129 u130 u131 u132 u133 u134 u135 u136 u137 u138 u139 u140 u141 u142 u143 u144 u145 u146 u147 u148 u149 u150 u151 u152 u153 u154 u155 u156 u157 u158 u159 u160 u161 u162 u163 u164 u165 u166 u167 u168 u169 u170 u171 u172 u173 u174 u175 u176 u177 u178 u179 u180 u181 u182 u183 u184 u185 u186 u187 u188 u189 u190 u191 u192 u193 u194 u195 u196 u197 u198 u199 u200 u201 u202 u203 u204 u205 u206 u207 u208 u209 u210 u211 u212 u213 u214 u215 u216 u217 u218 u219 u220 u221 u222 u223 u224 u225 u226 u227 u228 u229 u230 u231 u232 u233 u234 u235 u236 u237 u238 u239 u240 u241 u242 u243 u244 u245 u246 u247 u248 u249 u250 u251 u252 u253 u254 u255 u256 u257 u258 u259 u260 u261 u262 u263 u264 u265 u266 u267 u268 u269 u270 u271 u272 u273 u274 u275 u276 u277 u278 u279 u280 u281 u282 u283 u284 u285 u286 u287 u288 u289 u290 u291 u292 u293 u294 u295 u296 u297 u298 u299 u300 u301 u302 u303 u304 u305 u306 u307 u308 u309 u310 u311 u312 u313 u314 u315 u316 u317 u318 u319 u320 : Value) :
    Code.wp Ybgu.prog ((Ybgu.f3.body.bind (fromR 21)).getD .skip) (bodyPost Ybgu.prog Ybgu.f3 fun e w' => e = .returned (.bool true) ∧ Below w.heap.size w w') ⟨#[.slice ae n cape, .string id, .slice an m capn, .bool nm, .int .i64 o, u5, u6, u7, u8, u9, .bool false, .slice (some ⟨rb, 0, none⟩) n n, .pointer (some ⟨ob, 0, none⟩), .map (some eb), kv0, .bool sn, u16, u17, u18, u19, u20, .bool false, u22, u23, u24, u25, u26, u27, u28, u29, u30, u31, u32, u33, u34, u35, u36, u37, u38, u39, u40, u41, u42, u43, u44, u45, u46, u47, u48, u49, u50, u51, u52, u53, u54, u55, u56, u57, u58, u59, u60, u61, u62, u63, u64, u65, u66, u67, u68, u69, u70, u71, u72, u73, u74, u75, u76, u77, u78, u79, u80, u81, u82, u83, u84, u85, u86, u87, u88, u89, u90, u91, u92, u93, u94, u95, u96, u97, u98, u99, u100, u101, u102, u103, u104, u105, u106, u107, u108, u109, u110, u111, u112, u113, u114, u115, u116, u117, u118, u119, u120, u121, u122, u123, u124, u125, u126, u127, u128, u129, u130, u131, u132, u133, u134, u135, u136, u137, u138, u139, u140, u141, u142, u143, u144, u145, u146, u147, u148, u149, u150, u151, u152, u153, u154, u155, u156, u157, u158, u159, u160, u161, u162, u163, u164, u165, u166, u167, u168, u169, u170, u171, u172, u173, u174, u175, u176, u177, u178, u179, u180, u181, u182, u183, u184, u185, u186, u187, u188, u189, u190, u191, u192, u193, u194, u195, u196, u197, u198, u199, u200, u201, u202, u203, u204, u205, u206, u207, u208, u209, u210, u211, u212, u213, u214, u215, u216, u217, u218, u219, u220, u221, u222, u223, u224, u225, u226, u227, u228, u229, u230, u231, u232, u233, u234, u235, u236, u237, u238, u239, u240, u241, u242, u243, u244, u245, u246, u247, u248, u249, u250, u251, u252, u253, u254, u255, u256, u257, u258, u259, u260, u261, u262, u263, u264, u265, u266, u267, u268, u269, u270, u271, u272, u273, u274, u275, u276, u277, u278, u279, u280, u281, u282, u283, u284, u285, u286, u287, u288, u289, u290, u291, u292, u293, u294, u295, u296, u297, u298, u299, u300, u301, u302, u303, u304, u305, u306, u307, u308, u309, u310, u311, u312, u313, u314, u315, u316, u317, u318, u319, u320], []⟩ W := by
  conv => arg 2; whnf
  have HN : Hid (∀ j, j < n → Wf (N j)) := hN
  have HN0 := hN
  clear hN
  go_wp2
  go_loopw [113, 14, 21] (fun i kv v21 wr => ∃ (k : Nat) (ks : List Int), k ≤ n ∧ i = .int .i64 k ∧ v21 = .bool (!noown id S k) ∧ Inv w n S N T St o rb ob eb sn c0 D0 ks (c0 + k) (Dn id S N T St D0 k) kv wr ∧ KeysOK ks (Dn id S N T St D0 k) ∧ ks.length ≤ 65536 + k) (fun i _ _ _ => n - (intOf i).toNat)
  case atStart => exact ⟨0, ks0, Nat.zero_le _, rfl, rfl, hinv, hK0, hks0⟩
  case round =>
    obtain ⟨k, ks, hk, rfl, rfl, hI, hK, hks⟩ := hrel
    by_cases hlt : k < n
    · have hNk := HN.out k hlt
      have r3 : wr.cell? ⟨rb, k * 20 + 3, none⟩ = some (.string (S k)) := by rw [hI.row.cell (by omega), rowI_at _ _ _ _ _ _ (by omega)]; rfl
      by_cases hs : (S k).toList = id.toList
      · have hs' : ((S k).toList == id.toList) = true := by simpa using hs
        have hsne : ((S k).toList != id.toList) = false := by simpa using hs
        have r4 : wr.cell? ⟨rb, k * 20 + 4, none⟩ = some (.int .i64 (N k)) := by rw [hI.row.cell (by omega), rowI_at _ _ _ _ _ _ (by omega)]; rfl
        have hrlt := hI.lts.1
        go_wp2
        go_loopw [23, 24, 26] (fun v23 v24 v26 wi => ∃ j : Nat, j ≤ k ∧ v26 = .int .i64 j ∧ v23 = .bool (abv id S N T St j).l ∧ v24 = .bool (abv id S N T St j).u ∧ wi.heap[wr.heap.size]? = some (.cells #[.string (abv id S N T St j).s, .int .i64 (abv id S N T St j).n, .int .i64 (abv id S N T St j).t] 37) ∧ Below wr.heap.size wr wi) (fun _ _ i _ => k - (intOf i).toNat)
        case atStart => exact ⟨0, Nat.zero_le _, rfl, rfl, rfl, heap_alloc_new' wr _, (Below.refl _ _).alloc (Nat.le_refl _) _⟩
        case round =>
          rename World => wi
          obtain ⟨j, hj, rfl, rfl, rfl, hlow, hbi⟩ := hrel
          have habs : abv id S N T St (j + 1) = abv1 id (S j) (N j) (T j) (St j) (abv id S N T St j) := rfl
          generalize hab0 : abv id S N T St j = ab at hlow habs ⊢
          obtain ⟨al, sa, na, ta, ua⟩ := ab
          simp only at hlow
          have HAB0 : Hid (abv id S N T St j = ⟨al, sa, na, ta, ua⟩) := hab0
          have l0 : wi.cell? ⟨wr.heap.size, 0, none⟩ = some (.string sa) := by rw [cell_of hlow]; rfl
          have l1 : wi.cell? ⟨wr.heap.size, 1, none⟩ = some (.int .i64 na) := by rw [cell_of hlow]; rfl
          have l2 : wi.cell? ⟨wr.heap.size, 2, none⟩ = some (.int .i64 ta) := by rw [cell_of hlow]; rfl
          have lf : ∀ q, wi.frozen? ⟨wr.heap.size, q, none⟩ = false := frozen_of hlow
          have hlwi := lt_of_block hlow
          have HLOW : Hid (wi.heap[wr.heap.size]? = some (.cells #[.string sa, .int .i64 na, .int .i64 ta] 37)) := hlow
          clear hab0 hlow
          by_cases hjk : j < k
          · have hrk0 := row_range (rowIs_of_block hI.row (hbi.block rb hrlt)) (show j < n by omega)
            obtain ⟨it, hit⟩ : ∃ it, it = itemv (St j) (T j) (S j) (N j) := ⟨_, rfl⟩
            have it1 : it[1]? = some (.bool (St j)) := by rw [hit]; rfl
            have it2 : it[2]? = some (.int .i64 (T j)) := by rw [hit]; rfl
            have it3 : it[3]? = some (.string (S j)) := by rw [hit]; rfl
            have it4 : it[4]? = some (.int .i64 (N j)) := by rw [hit]; rfl
            have hone : it.all (fun v => v.oneCell') = true := by rw [hit]; exact itemv_one _ _ _ _
            have HI1 : Hid (Option.map (fun x => x.size) (Ybgu.prog.info? 48) = some it.toList.length) := by rw [hit]; exact info48
            have HI2 : Hid (Option.map (fun x => x.size) (Ybgu.prog.info? 48) = some it.size) := by rw [hit]; exact info48
            have HI3 : Hid ((itemv false 0 ⟨#[]⟩ 0).size = it.size) := by rw [hit]; rfl
            have hrk : wi.rangeAt rb (j * 20) it.toList := by rw [hit]; exact hrk0
            have hu48 := Ybgu.underlying48
            clear hit hrk0
            unfold abv1 at habs
            by_cases hsj : (S j).toList = id.toList
            · have hsj' : ((S j).toList == id.toList) = true := by simpa using hsj
              rw [if_pos hsj] at habs
              have HE : Hid (abv id S N T St (j + 1) = ⟨al, sa, na, ta, ua⟩) := habs
              clear habs
              go_upto_region 32 with (first | (refine wpList_load_mid rfl 48 (.tmp 131) rfl rb (j * 20) rfl it.toList _ hrk hu48 rfl HI1.out ?_; simp only [Array.toArray_toList]) | (refine wpList_storeNew rfl rfl 48 (.tmp 27) (.tmp 132) rfl _ it _ rfl rfl rfl HI2.out HI3.out hone ?_))
              go_wp2
              go_roundw
              case rel => exact ⟨j + 1, by omega, by go_num, by rw [HE.out], by rw [HE.out], by rw [HE.out, Below.heap_alloc _ _ _ hlwi]; exact HLOW.out, hbi.alloc hbi.size _⟩
              case measure => simp [intOf]; omega
            · have hsj' : ((S j).toList == id.toList) = false := by simpa using hsj
              rw [if_neg hsj] at habs
              cases hst : St j
              · rw [hst] at it1 habs
                have HE : Hid (abv id S N T St (j + 1) = ⟨al, sa, na, ta, true⟩) := habs
                clear habs
                go_upto_region 32 with (first | (refine wpList_load_mid rfl 48 (.tmp 131) rfl rb (j * 20) rfl it.toList _ hrk hu48 rfl HI1.out ?_; simp only [Array.toArray_toList]) | (refine wpList_storeNew rfl rfl 48 (.tmp 27) (.tmp 132) rfl _ it _ rfl rfl rfl HI2.out HI3.out hone ?_))
                go_wp2
                go_roundw
                case rel => exact ⟨j + 1, by omega, by go_num, by rw [HE.out], by rw [HE.out], by rw [HE.out, Below.heap_alloc _ _ _ hlwi]; exact HLOW.out, hbi.alloc hbi.size _⟩
                case measure => simp [intOf]; omega
              · rw [hst, if_pos rfl] at habs
                rw [hst] at it1
                cases al
                · have HE : Hid (abv id S N T St (j + 1) = ⟨true, S j, N j, T j, ua⟩) := habs
                  clear habs
                  go_upto_region 32 with (first | (refine wpList_load_mid rfl 48 (.tmp 131) rfl rb (j * 20) rfl it.toList _ hrk hu48 rfl HI1.out ?_; simp only [Array.toArray_toList]) | (refine wpList_storeNew rfl rfl 48 (.tmp 27) (.tmp 132) rfl _ it _ rfl rfl rfl HI2.out HI3.out hone ?_))
                  go_wp2
                  go_roundw
                  case rel => exact ⟨j + 1, by omega, by go_num, by rw [HE.out], by rw [HE.out], by rw [HE.out, Below.heap_alloc _ _ _ (by simp; omega), Below.heap_alloc _ _ _ (by simp; omega)]; exact heap_set (heap_set (heap_set HLOW.out 0 _) 1 _) 2 _, (((((hbi.setCell (Nat.le_refl _) _).setCell (Nat.le_refl _) _).setCell (Nat.le_refl _) _).alloc (by simp; omega) _).alloc (by simp; omega) _)⟩
                  case measure => simp [intOf]; omega
                · have HFF : Hid (∀ X : World, Below ((wi.alloc (.cells it 48)).alloc (.cells #[.string (S j), .int .i64 (N j), .int .i64 (T j)] 37)).heap.size ((wi.alloc (.cells it 48)).alloc (.cells #[.string (S j), .int .i64 (N j), .int .i64 (T j)] 37)) X → X.heap[wr.heap.size]? = some (.cells #[.string sa, .int .i64 na, .int .i64 ta] 37) ∧ X.heap[wi.heap.size + 1]? = some (.cells #[.string (S j), .int .i64 (N j), .int .i64 (T j)] 37) ∧ Below wr.heap.size wr X) := by
                    intro X hX
                    refine ⟨?_, ?_, ((hbi.alloc hbi.size _).alloc (by have := hbi.size; rw [World.size_alloc]; omega) _).trans (hX.mono (by have := hbi.size; rw [World.size_alloc, World.size_alloc]; omega))⟩
                    · rw [hX.block _ (by rw [World.size_alloc, World.size_alloc]; omega), Below.heap_alloc _ _ _ (by rw [World.size_alloc]; omega), Below.heap_alloc _ _ _ hlwi]; exact HLOW.out
                    · rw [hX.block _ (by rw [World.size_alloc, World.size_alloc]; omega)]
                      have := heap_alloc_new' (wi.alloc (.cells it 48)) (.cells #[.string (S j), .int .i64 (N j), .int .i64 (T j)] 37)
                      rw [World.size_alloc] at this
                      exact this
                  cases hcv : olderv (S j) (N j) (T j) sa na ta
                  · have HE : Hid (abv id S N T St (j + 1) = ⟨true, sa, na, ta, ua⟩) := by rw [habs, hcv]; rfl
                    clear habs
                    go_upto_region 32 with (first | (refine wpList_load_mid rfl 48 (.tmp 131) rfl rb (j * 20) rfl it.toList _ hrk hu48 rfl HI1.out ?_; simp only [Array.toArray_toList]) | (refine wpList_storeNew rfl rfl 48 (.tmp 27) (.tmp 132) rfl _ it _ rfl rfl rfl HI2.out HI3.out hone ?_))
                    go_upto_if 158 with ((go_at_call 5; refine (older_any _ _ _ _ _ _ _).mono ?_; rintro e w5 ⟨rfl, hb5⟩; rw [hcv]; have q := HFF.out _ hb5; have q0 : w5.cell? ⟨wr.heap.size, 0, none⟩ = some (.string sa) := (by rw [cell_of q.1]; rfl); have q1 : w5.cell? ⟨wr.heap.size, 1, none⟩ = some (.int .i64 na) := (by rw [cell_of q.1]; rfl); have q2 : w5.cell? ⟨wr.heap.size, 2, none⟩ = some (.int .i64 ta) := (by rw [cell_of q.1]; rfl); have qf : ∀ q, w5.frozen? ⟨wr.heap.size, q, none⟩ = false := frozen_of q.1; have p0 : w5.cell? ⟨wi.heap.size + 1, 0, none⟩ = some (.string (S j)) := (by rw [cell_of q.2.1]; rfl); have p1 : w5.cell? ⟨wi.heap.size + 1, 1, none⟩ = some (.int .i64 (N j)) := (by rw [cell_of q.2.1]; rfl); have p2 : w5.cell? ⟨wi.heap.size + 1, 2, none⟩ = some (.int .i64 (T j)) := (by rw [cell_of q.2.1]; rfl); clear q))
                    rename (Ending.returned _ = Ending.returned _) => heq
                    cases heq
                    go_wp2
                    go_roundw
                    case rel =>
                      rename Below _ _ _ => hb5
                      have q := HFF.out _ hb5
                      exact ⟨j + 1, by omega, by go_num, by rw [HE.out], by rw [HE.out], by rw [HE.out]; exact q.1, q.2.2⟩
                    case measure => simp [intOf]; omega
                  · have HE : Hid (abv id S N T St (j + 1) = ⟨true, S j, N j, T j, ua⟩) := by rw [habs, hcv]; rfl
                    clear habs
                    go_upto_region 32 with (first | (refine wpList_load_mid rfl 48 (.tmp 131) rfl rb (j * 20) rfl it.toList _ hrk hu48 rfl HI1.out ?_; simp only [Array.toArray_toList]) | (refine wpList_storeNew rfl rfl 48 (.tmp 27) (.tmp 132) rfl _ it _ rfl rfl rfl HI2.out HI3.out hone ?_))
                    go_upto_if 158 with ((go_at_call 5; refine (older_any _ _ _ _ _ _ _).mono ?_; rintro e w5 ⟨rfl, hb5⟩; rw [hcv]; have q := HFF.out _ hb5; have q0 : w5.cell? ⟨wr.heap.size, 0, none⟩ = some (.string sa) := (by rw [cell_of q.1]; rfl); have q1 : w5.cell? ⟨wr.heap.size, 1, none⟩ = some (.int .i64 na) := (by rw [cell_of q.1]; rfl); have q2 : w5.cell? ⟨wr.heap.size, 2, none⟩ = some (.int .i64 ta) := (by rw [cell_of q.1]; rfl); have qf : ∀ q, w5.frozen? ⟨wr.heap.size, q, none⟩ = false := frozen_of q.1; have p0 : w5.cell? ⟨wi.heap.size + 1, 0, none⟩ = some (.string (S j)) := (by rw [cell_of q.2.1]; rfl); have p1 : w5.cell? ⟨wi.heap.size + 1, 1, none⟩ = some (.int .i64 (N j)) := (by rw [cell_of q.2.1]; rfl); have p2 : w5.cell? ⟨wi.heap.size + 1, 2, none⟩ = some (.int .i64 (T j)) := (by rw [cell_of q.2.1]; rfl); clear q))
                    rename (Ending.returned _ = Ending.returned _) => heq
                    cases heq
                    go_wp2
                    go_roundw
                    case rel =>
                      rename Below _ _ _ => hb5
                      have q := HFF.out _ hb5
                      exact ⟨j + 1, by omega, by go_num, by rw [HE.out], by rw [HE.out], by rw [HE.out]; exact heap_set (heap_set (heap_set q.1 0 _) 1 _) 2 _, ((q.2.2.setCell (Nat.le_refl _) _).setCell (Nat.le_refl _) _).setCell (Nat.le_refl _) _⟩
                    case measure => simp [intOf]; omega
          · have hjk' : k = j := by omega
            subst hjk'
            have hIi := hI.below hbi
            have r4i : wi.cell? ⟨rb, k * 20 + 4, none⟩ = some (.int .i64 (N k)) := (World.cell?_of_block (w := wr) (hbi.block rb hrlt)).trans r4
            have hlk := OM.look_ok hIi.exp hNk
            obtain ⟨wa, hwa⟩ : ∃ wa, wa = laAt (Dn id S N T St D0 k) (N k) := ⟨_, rfl⟩
            rw [← hwa] at hlk
            obtain ⟨wl, ws, wn, wt, wu⟩ := wa
            simp only [lav, lacs] at hlk
            have HWA : Hid (⟨wl, ws, wn, wt, wu⟩ = laAt (Dn id S N T St D0 k) (N k)) := hwa
            obtain ⟨hb, hhb⟩ : ∃ hb, hb = Maps.has (Dn id S N T St D0 k) (kl (N k)) := ⟨_, rfl⟩
            rw [← hhb] at hlk
            have HH : Hid (hb = Maps.has (Dn id S N T St D0 k) (kl (N k))) := hhb
            have hsi := hIi.bel.size
            clear hwa hhb habs l0 l1 l2 lf r3 r4
            go_upto_if 173 with (fail)
            go_cut [14] (fun kv' wc => ∃ ks', Inv w n S N T St o rb ob eb sn c0 D0 ks' (c0 + k) (Dn id S N T St D0 k) kv' wc ∧ ks' = (if hb then ks else ks ++ [N k]) ∧ wc.heap[wi.heap.size]? = some (.cells #[.bool wl, .string ws, .int .i64 wn, .int .i64 wt, .bool wu] 39) ∧ wc.heap[wr.heap.size]? = some (.cells #[.string sa, .int .i64 na, .int .i64 ta] 37))
            case first =>
              cases hb
              · have hI4 := hIi.alloc (.cells #[.bool wl, .string ws, .int .i64 wn, .int .i64 wt, .bool wu] 39)
                obtain ⟨i0, hi0, hz0, hz1, hz2⟩ := info_parts Ybgu.info2'
                have HK4 : Hid (((wi.alloc (.cells #[.bool wl, .string ws, .int .i64 wn, .int .i64 wt, .bool wu] 39)).alloc (.cells #[.int .i64 (N k)] 2)).ownsRow w.heap.size 2 1 u14 ks.length (ks.map (Value.int .i64))) := hI4.keys.alloc _
                have HSZ : Hid (w.heap.size ≤ ((wi.alloc (.cells #[.bool wl, .string ws, .int .i64 wn, .int .i64 wt, .bool wu] 39)).alloc (.cells #[.int .i64 (N k)] 2)).heap.size) := by show w.heap.size ≤ _; rw [World.size_alloc, World.size_alloc]; omega
                have HNW : Hid (∀ q u, [Value.int .i64 (N k)][q]? = some u → ((wi.alloc (.cells #[.bool wl, .string ws, .int .i64 wn, .int .i64 wt, .bool wu] 39)).alloc (.cells #[.int .i64 (N k)] 2)).cell? ((⟨wi.heap.size + 1, 0, none⟩ : Addr).add q) = some u) := by
                  intro q v hv
                  cases q with
                  | zero =>
                    simp at hv
                    subst hv
                    rw [Addr.add_mid, World.cell?_alloc_at (hn := by simp)]
                    rfl
                  | succ q => simp at hv
                go_wp2_with (at_builtin; refine wpList_append_own _ rfl (.tmp 174) (.tmp 176) 31 rfl w.heap.size 2 i0 (.int .i64 0) 1 8 Ybgu.underlying31 hi0 hz0 hz1 hz2 rfl (by omega) u14 ks.length (ks.map (Value.int .i64)) rfl HK4.out _ 1 _ [.int .i64 (N k)] rfl rfl HNW.out (by simp [Value.oneCell']) (by simp only [maxLen]; omega) (by omega) HSZ.out ?_; intro kv' W6 hk6 hg6 _)
                rename World.grownBy _ _ _ => hg6
                rename World.ownsRow _ _ _ _ _ _ _ => hk6
                go_meet
                case rel =>
                  have hI5 := hI4.alloc (.cells #[.int .i64 (N k)] 2)
                  have hI6 := hI5.append (x := N k) (by simpa using hk6) hg6
                  have p1 : ((wi.alloc (.cells #[.bool wl, .string ws, .int .i64 wn, .int .i64 wt, .bool wu] 39)).alloc (.cells #[.int .i64 (N k)] 2)).heap[wi.heap.size]? = some (.cells #[.bool wl, .string ws, .int .i64 wn, .int .i64 wt, .bool wu] 39) := by
                    rw [Below.heap_alloc _ _ _ (by rw [World.size_alloc]; omega)]; exact heap_alloc_new' wi _
                  have p2 : ((wi.alloc (.cells #[.bool wl, .string ws, .int .i64 wn, .int .i64 wt, .bool wu] 39)).alloc (.cells #[.int .i64 (N k)] 2)).heap[wr.heap.size]? = some (.cells #[.string sa, .int .i64 na, .int .i64 ta] 37) := by
                    rw [Below.heap_alloc _ _ _ (by rw [World.size_alloc]; omega), Below.heap_alloc _ _ _ hlwi]; exact HLOW.out
                  exact ⟨ks ++ [N k], hI6, rfl, (hg6.block _ (lt_of_block p1) (Ne.symm (own_ne hI5.keys p1 (by intro cs f e; cases e)))).trans p1, (hg6.block _ (lt_of_block p2) (Ne.symm (own_ne hI5.keys p2 (by intro cs f e; cases e)))).trans p2⟩
              · go_wp2
                go_meet
                case rel => exact ⟨ks, hIi.alloc _, rfl, heap_alloc_new' wi _, (Below.heap_alloc _ _ _ hlwi).trans HLOW.out⟩
            case rest =>
              rename World => wc
              obtain ⟨ks', hIc, hks', hbw, hba⟩ := hcut
              have hksl : ks'.length ≤ 65536 + (k + 1) := by
                rw [hks']
                cases hb
                · simp; omega
                · simp; omega
              have HFIN : Hid (∀ (kvx : Value) (X : World), Inv w n S N T St o rb ob eb sn c0 D0 ks' (c0 + k) (Dn id S N T St D0 k) kvx X → ∃ W7, (Instr.mapUpdate 28 (.map (some eb)) (.int .i64 (N k)) (lav (mrg ⟨wl, ws, wn, wt, wu⟩ ⟨al, sa, na, ta, ua⟩))).run Ybgu.prog X = .ok () W7 ∧ Inv w n S N T St o rb ob eb sn c0 D0 ks' (c0 + (k + 1)) (Dn id S N T St D0 (k + 1)) kvx W7 ∧ KeysOK ks' (Dn id S N T St D0 (k + 1))) := by
                intro kvx X hIX
                obtain ⟨W7, hrun7, hom7, hg7⟩ := OM.put hIX.exp (by simp only [maxLen]; omega) hNk (mrg ⟨wl, ws, wn, wt, wu⟩ ⟨al, sa, na, ta, ua⟩)
                have hD : Dn id S N T St D0 (k + 1) = (Dn id S N T St D0 k).put (kl (N k)) (.held (mrg ⟨wl, ws, wn, wt, wu⟩ ⟨al, sa, na, ta, ua⟩)) := by
                  conv => lhs; unfold Dn
                  rw [if_pos hs, ← HWA.out, HAB0.out]
                refine ⟨W7, hrun7, ?_, ?_⟩
                · rw [hD]; exact hIX.putExp hom7 hg7
                · rw [hD, hks', HH.out]; exact keys_step hK hNk _ (hom7.tidy keyed2)
              have HNO : Hid (noown id S (k + 1) = false) := by
                show noown id S (k + 1) = false
                unfold noown
                rw [hs']
                simp
              have hwiwc := lt_of_block hbw
              have hwrwc := lt_of_block hba
              have x0 : wc.cell? ⟨wi.heap.size, 0, none⟩ = some (.bool wl) := by rw [cell_of hbw]; rfl
              have x1 : wc.cell? ⟨wi.heap.size, 1, none⟩ = some (.string ws) := by rw [cell_of hbw]; rfl
              have x2 : wc.cell? ⟨wi.heap.size, 2, none⟩ = some (.int .i64 wn) := by rw [cell_of hbw]; rfl
              have x3 : wc.cell? ⟨wi.heap.size, 3, none⟩ = some (.int .i64 wt) := by rw [cell_of hbw]; rfl
              have x4 : wc.cell? ⟨wi.heap.size, 4, none⟩ = some (.bool wu) := by rw [cell_of hbw]; rfl
              have y0 : wc.cell? ⟨wr.heap.size, 0, none⟩ = some (.string sa) := by rw [cell_of hba]; rfl
              have y1 : wc.cell? ⟨wr.heap.size, 1, none⟩ = some (.int .i64 na) := by rw [cell_of hba]; rfl
              have y2 : wc.cell? ⟨wr.heap.size, 2, none⟩ = some (.int .i64 ta) := by rw [cell_of hba]; rfl
              have HBW : Hid (wc.heap[wi.heap.size]? = some (.cells #[.bool wl, .string ws, .int .i64 wn, .int .i64 wt, .bool wu] 39)) := hbw
              have HBA : Hid (wc.heap[wr.heap.size]? = some (.cells #[.string sa, .int .i64 na, .int .i64 ta] 37)) := hba
              clear hbw hba hks' hIi hI hK HH HWA HAB0 HLOW hlk r4i hbi
              cases wl
              · cases wu
                · have hm0 : mrg ⟨false, ws, wn, wt, false⟩ ⟨al, sa, na, ta, ua⟩ = ⟨al, sa, na, ta, ua⟩ := by simp [mrg]
                  have HM : Hid (mrg ⟨false, ws, wn, wt, false⟩ ⟨al, sa, na, ta, ua⟩ = ⟨al, sa, na, ta, ua⟩) := hm0
                  clear hm0
                  go_upto_region 53 with (fail)
                  obtain ⟨W7, hrun7, hI7, hK7⟩ := HFIN.out _ (wc.alloc (.cells #[.bool al, .string sa, .int .i64 na, .int .i64 ta, .bool ua] 39)) (hIc.alloc _)
                  rw [HM.out] at hrun7
                  simp only [lav, lacs] at hrun7
                  clear hIc HFIN
                  go_wp2
                  go_roundw
                  case rel => exact ⟨k + 1, ks', by omega, by go_num, by rw [HNO.out]; rfl, hI7, hK7, hksl⟩
                  case measure => simp [intOf]; omega
                · have hm0 : mrg ⟨false, ws, wn, wt, true⟩ ⟨al, sa, na, ta, ua⟩ = ⟨al, sa, na, ta, true⟩ := by simp [mrg]
                  have HM : Hid (mrg ⟨false, ws, wn, wt, true⟩ ⟨al, sa, na, ta, ua⟩ = ⟨al, sa, na, ta, true⟩) := hm0
                  clear hm0
                  go_upto_region 53 with (fail)
                  obtain ⟨W7, hrun7, hI7, hK7⟩ := HFIN.out _ (wc.alloc (.cells #[.bool al, .string sa, .int .i64 na, .int .i64 ta, .bool true] 39)) (hIc.alloc _)
                  rw [HM.out] at hrun7
                  simp only [lav, lacs] at hrun7
                  clear hIc HFIN
                  go_wp2
                  go_roundw
                  case rel => exact ⟨k + 1, ks', by omega, by go_num, by rw [HNO.out]; rfl, hI7, hK7, hksl⟩
                  case measure => simp [intOf]; omega
              · cases al
                · cases wu
                  · have hm0 : mrg ⟨true, ws, wn, wt, false⟩ ⟨false, sa, na, ta, ua⟩ = ⟨true, ws, wn, wt, ua⟩ := by simp [mrg]
                    have HM : Hid (mrg ⟨true, ws, wn, wt, false⟩ ⟨false, sa, na, ta, ua⟩ = ⟨true, ws, wn, wt, ua⟩) := hm0
                    clear hm0
                    go_upto_region 53 with (fail)
                    obtain ⟨W7, hrun7, hI7, hK7⟩ := HFIN.out _ (wc.alloc (.cells #[.bool true, .string ws, .int .i64 wn, .int .i64 wt, .bool ua] 39)) (hIc.alloc _)
                    rw [HM.out] at hrun7
                    simp only [lav, lacs] at hrun7
                    clear hIc HFIN
                    go_wp2
                    go_roundw
                    case rel => exact ⟨k + 1, ks', by omega, by go_num, by rw [HNO.out]; rfl, hI7, hK7, hksl⟩
                    case measure => simp [intOf]; omega
                  · have hm0 : mrg ⟨true, ws, wn, wt, true⟩ ⟨false, sa, na, ta, ua⟩ = ⟨true, ws, wn, wt, true⟩ := by simp [mrg]
                    have HM : Hid (mrg ⟨true, ws, wn, wt, true⟩ ⟨false, sa, na, ta, ua⟩ = ⟨true, ws, wn, wt, true⟩) := hm0
                    clear hm0
                    go_upto_region 53 with (fail)
                    obtain ⟨W7, hrun7, hI7, hK7⟩ := HFIN.out _ (wc.alloc (.cells #[.bool true, .string ws, .int .i64 wn, .int .i64 wt, .bool true] 39)) (hIc.alloc _)
                    rw [HM.out] at hrun7
                    simp only [lav, lacs] at hrun7
                    clear hIc HFIN
                    go_wp2
                    go_roundw
                    case rel => exact ⟨k + 1, ks', by omega, by go_num, by rw [HNO.out]; rfl, hI7, hK7, hksl⟩
                    case measure => simp [intOf]; omega
                · cases hol : olderv sa na ta ws wn wt
                  · cases wu
                    · have hm0 : mrg ⟨true, ws, wn, wt, false⟩ ⟨true, sa, na, ta, ua⟩ = ⟨true, ws, wn, wt, ua⟩ := by simp [mrg, hol]
                      have HM : Hid (mrg ⟨true, ws, wn, wt, false⟩ ⟨true, sa, na, ta, ua⟩ = ⟨true, ws, wn, wt, ua⟩) := hm0
                      clear hm0
                      have HNF : Hid (∀ X : World, Below (wc.alloc (.cells #[.bool true, .string ws, .int .i64 wn, .int .i64 wt, .bool false] 39)).heap.size (wc.alloc (.cells #[.bool true, .string ws, .int .i64 wn, .int .i64 wt, .bool false] 39)) X → X.heap[wc.heap.size]? = some (.cells #[.bool true, .string ws, .int .i64 wn, .int .i64 wt, .bool false] 39) ∧ X.heap[wi.heap.size]? = some (.cells #[.bool true, .string ws, .int .i64 wn, .int .i64 wt, .bool false] 39) ∧ X.heap[wr.heap.size]? = some (.cells #[.string sa, .int .i64 na, .int .i64 ta] 37) ∧ Kp (fun _ => False) wc X) := by
                        intro X hX
                        refine ⟨(hX.block _ (by rw [World.size_alloc]; omega)).trans (heap_alloc_new' wc _), ?_, ?_, ((Kp.refl _ _).alloc _).call hX⟩
                        · rw [hX.block _ (by rw [World.size_alloc]; omega), Below.heap_alloc _ _ _ hwiwc]; exact HBW.out
                        · rw [hX.block _ (by rw [World.size_alloc]; omega), Below.heap_alloc _ _ _ hwrwc]; exact HBA.out
                      go_upto_if 198 with (go_at_call 5; refine (older_any _ _ _ _ _ _ _).mono ?_; rintro e w5 ⟨rfl, hb5⟩; rw [hol]; have q := HNF.out _ hb5; have n0 : w5.cell? ⟨wc.heap.size, 0, none⟩ = some (.bool true) := (by rw [cell_of q.1]; rfl); have n1 : w5.cell? ⟨wc.heap.size, 1, none⟩ = some (.string ws) := (by rw [cell_of q.1]; rfl); have n2 : w5.cell? ⟨wc.heap.size, 2, none⟩ = some (.int .i64 wn) := (by rw [cell_of q.1]; rfl); have n3 : w5.cell? ⟨wc.heap.size, 3, none⟩ = some (.int .i64 wt) := (by rw [cell_of q.1]; rfl); have n4 : w5.cell? ⟨wc.heap.size, 4, none⟩ = some (.bool false) := (by rw [cell_of q.1]; rfl); have nf : ∀ q, w5.frozen? ⟨wc.heap.size, q, none⟩ = false := frozen_of q.1; have v0 : w5.cell? ⟨wi.heap.size, 0, none⟩ = some (.bool true) := (by rw [cell_of q.2.1]; rfl); have v4 : w5.cell? ⟨wi.heap.size, 4, none⟩ = some (.bool false) := (by rw [cell_of q.2.1]; rfl); have m0 : w5.cell? ⟨wr.heap.size, 0, none⟩ = some (.string sa) := (by rw [cell_of q.2.2.1]; rfl); have m1 : w5.cell? ⟨wr.heap.size, 1, none⟩ = some (.int .i64 na) := (by rw [cell_of q.2.2.1]; rfl); have m2 : w5.cell? ⟨wr.heap.size, 2, none⟩ = some (.int .i64 ta) := (by rw [cell_of q.2.2.1]; rfl); clear q)
                      rename (Ending.returned _ = Ending.returned _) => heq
                      cases heq
                      go_upto_region 53 with (fail)
                      rename Below _ _ _ => hb5
                      obtain ⟨W7, hrun7, hI7, hK7⟩ := HFIN.out _ _ (hIc.kp ((HNF.out _ hb5).2.2.2.setCell (p := ⟨wc.heap.size, 4, none⟩) (.inl (Nat.le_refl _)) (.bool ua)))
                      rw [HM.out] at hrun7
                      simp only [lav, lacs] at hrun7
                      clear hIc HFIN
                      go_wp2
                      go_roundw
                      case rel => exact ⟨k + 1, ks', by omega, by go_num, by rw [HNO.out]; rfl, hI7, hK7, hksl⟩
                      case measure => simp [intOf]; omega
                    · have hm0 : mrg ⟨true, ws, wn, wt, true⟩ ⟨true, sa, na, ta, ua⟩ = ⟨true, ws, wn, wt, true⟩ := by simp [mrg, hol]
                      have HM : Hid (mrg ⟨true, ws, wn, wt, true⟩ ⟨true, sa, na, ta, ua⟩ = ⟨true, ws, wn, wt, true⟩) := hm0
                      clear hm0
                      have HNF : Hid (∀ X : World, Below (wc.alloc (.cells #[.bool true, .string ws, .int .i64 wn, .int .i64 wt, .bool false] 39)).heap.size (wc.alloc (.cells #[.bool true, .string ws, .int .i64 wn, .int .i64 wt, .bool false] 39)) X → X.heap[wc.heap.size]? = some (.cells #[.bool true, .string ws, .int .i64 wn, .int .i64 wt, .bool false] 39) ∧ X.heap[wi.heap.size]? = some (.cells #[.bool true, .string ws, .int .i64 wn, .int .i64 wt, .bool true] 39) ∧ X.heap[wr.heap.size]? = some (.cells #[.string sa, .int .i64 na, .int .i64 ta] 37) ∧ Kp (fun _ => False) wc X) := by
                        intro X hX
                        refine ⟨(hX.block _ (by rw [World.size_alloc]; omega)).trans (heap_alloc_new' wc _), ?_, ?_, ((Kp.refl _ _).alloc _).call hX⟩
                        · rw [hX.block _ (by rw [World.size_alloc]; omega), Below.heap_alloc _ _ _ hwiwc]; exact HBW.out
                        · rw [hX.block _ (by rw [World.size_alloc]; omega), Below.heap_alloc _ _ _ hwrwc]; exact HBA.out
                      go_upto_if 198 with (go_at_call 5; refine (older_any _ _ _ _ _ _ _).mono ?_; rintro e w5 ⟨rfl, hb5⟩; rw [hol]; have q := HNF.out _ hb5; have n0 : w5.cell? ⟨wc.heap.size, 0, none⟩ = some (.bool true) := (by rw [cell_of q.1]; rfl); have n1 : w5.cell? ⟨wc.heap.size, 1, none⟩ = some (.string ws) := (by rw [cell_of q.1]; rfl); have n2 : w5.cell? ⟨wc.heap.size, 2, none⟩ = some (.int .i64 wn) := (by rw [cell_of q.1]; rfl); have n3 : w5.cell? ⟨wc.heap.size, 3, none⟩ = some (.int .i64 wt) := (by rw [cell_of q.1]; rfl); have n4 : w5.cell? ⟨wc.heap.size, 4, none⟩ = some (.bool false) := (by rw [cell_of q.1]; rfl); have nf : ∀ q, w5.frozen? ⟨wc.heap.size, q, none⟩ = false := frozen_of q.1; have v0 : w5.cell? ⟨wi.heap.size, 0, none⟩ = some (.bool true) := (by rw [cell_of q.2.1]; rfl); have v4 : w5.cell? ⟨wi.heap.size, 4, none⟩ = some (.bool true) := (by rw [cell_of q.2.1]; rfl); have m0 : w5.cell? ⟨wr.heap.size, 0, none⟩ = some (.string sa) := (by rw [cell_of q.2.2.1]; rfl); have m1 : w5.cell? ⟨wr.heap.size, 1, none⟩ = some (.int .i64 na) := (by rw [cell_of q.2.2.1]; rfl); have m2 : w5.cell? ⟨wr.heap.size, 2, none⟩ = some (.int .i64 ta) := (by rw [cell_of q.2.2.1]; rfl); clear q)
                      rename (Ending.returned _ = Ending.returned _) => heq
                      cases heq
                      go_upto_region 53 with (fail)
                      rename Below _ _ _ => hb5
                      obtain ⟨W7, hrun7, hI7, hK7⟩ := HFIN.out _ _ (hIc.kp ((HNF.out _ hb5).2.2.2.setCell (p := ⟨wc.heap.size, 4, none⟩) (.inl (Nat.le_refl _)) (.bool true)))
                      rw [HM.out] at hrun7
                      simp only [lav, lacs] at hrun7
                      clear hIc HFIN
                      go_wp2
                      go_roundw
                      case rel => exact ⟨k + 1, ks', by omega, by go_num, by rw [HNO.out]; rfl, hI7, hK7, hksl⟩
                      case measure => simp [intOf]; omega
                  · cases wu
                    · have hm0 : mrg ⟨true, ws, wn, wt, false⟩ ⟨true, sa, na, ta, ua⟩ = ⟨true, sa, na, ta, ua⟩ := by simp [mrg, hol]
                      have HM : Hid (mrg ⟨true, ws, wn, wt, false⟩ ⟨true, sa, na, ta, ua⟩ = ⟨true, sa, na, ta, ua⟩) := hm0
                      clear hm0
                      have HNF : Hid (∀ X : World, Below (wc.alloc (.cells #[.bool true, .string ws, .int .i64 wn, .int .i64 wt, .bool false] 39)).heap.size (wc.alloc (.cells #[.bool true, .string ws, .int .i64 wn, .int .i64 wt, .bool false] 39)) X → X.heap[wc.heap.size]? = some (.cells #[.bool true, .string ws, .int .i64 wn, .int .i64 wt, .bool false] 39) ∧ X.heap[wi.heap.size]? = some (.cells #[.bool true, .string ws, .int .i64 wn, .int .i64 wt, .bool false] 39) ∧ X.heap[wr.heap.size]? = some (.cells #[.string sa, .int .i64 na, .int .i64 ta] 37) ∧ Kp (fun _ => False) wc X) := by
                        intro X hX
                        refine ⟨(hX.block _ (by rw [World.size_alloc]; omega)).trans (heap_alloc_new' wc _), ?_, ?_, ((Kp.refl _ _).alloc _).call hX⟩
                        · rw [hX.block _ (by rw [World.size_alloc]; omega), Below.heap_alloc _ _ _ hwiwc]; exact HBW.out
                        · rw [hX.block _ (by rw [World.size_alloc]; omega), Below.heap_alloc _ _ _ hwrwc]; exact HBA.out
                      go_upto_if 198 with (go_at_call 5; refine (older_any _ _ _ _ _ _ _).mono ?_; rintro e w5 ⟨rfl, hb5⟩; rw [hol]; have q := HNF.out _ hb5; have n0 : w5.cell? ⟨wc.heap.size, 0, none⟩ = some (.bool true) := (by rw [cell_of q.1]; rfl); have n1 : w5.cell? ⟨wc.heap.size, 1, none⟩ = some (.string ws) := (by rw [cell_of q.1]; rfl); have n2 : w5.cell? ⟨wc.heap.size, 2, none⟩ = some (.int .i64 wn) := (by rw [cell_of q.1]; rfl); have n3 : w5.cell? ⟨wc.heap.size, 3, none⟩ = some (.int .i64 wt) := (by rw [cell_of q.1]; rfl); have n4 : w5.cell? ⟨wc.heap.size, 4, none⟩ = some (.bool false) := (by rw [cell_of q.1]; rfl); have nf : ∀ q, w5.frozen? ⟨wc.heap.size, q, none⟩ = false := frozen_of q.1; have v0 : w5.cell? ⟨wi.heap.size, 0, none⟩ = some (.bool true) := (by rw [cell_of q.2.1]; rfl); have v4 : w5.cell? ⟨wi.heap.size, 4, none⟩ = some (.bool false) := (by rw [cell_of q.2.1]; rfl); have m0 : w5.cell? ⟨wr.heap.size, 0, none⟩ = some (.string sa) := (by rw [cell_of q.2.2.1]; rfl); have m1 : w5.cell? ⟨wr.heap.size, 1, none⟩ = some (.int .i64 na) := (by rw [cell_of q.2.2.1]; rfl); have m2 : w5.cell? ⟨wr.heap.size, 2, none⟩ = some (.int .i64 ta) := (by rw [cell_of q.2.2.1]; rfl); clear q)
                      rename (Ending.returned _ = Ending.returned _) => heq
                      cases heq
                      go_upto_region 53 with (fail)
                      rename Below _ _ _ => hb5
                      obtain ⟨W7, hrun7, hI7, hK7⟩ := HFIN.out _ _ (hIc.kp (((((HNF.out _ hb5).2.2.2.setCell (p := ⟨wc.heap.size, 1, none⟩) (.inl (Nat.le_refl _)) (.string sa)).setCell (p := ⟨wc.heap.size, 2, none⟩) (.inl (Nat.le_refl _)) (.int .i64 na)).setCell (p := ⟨wc.heap.size, 3, none⟩) (.inl (Nat.le_refl _)) (.int .i64 ta)).setCell (p := ⟨wc.heap.size, 4, none⟩) (.inl (Nat.le_refl _)) (.bool ua)))
                      rw [HM.out] at hrun7
                      simp only [lav, lacs] at hrun7
                      clear hIc HFIN
                      go_wp2
                      go_roundw
                      case rel => exact ⟨k + 1, ks', by omega, by go_num, by rw [HNO.out]; rfl, hI7, hK7, hksl⟩
                      case measure => simp [intOf]; omega
                    · have hm0 : mrg ⟨true, ws, wn, wt, true⟩ ⟨true, sa, na, ta, ua⟩ = ⟨true, sa, na, ta, true⟩ := by simp [mrg, hol]
                      have HM : Hid (mrg ⟨true, ws, wn, wt, true⟩ ⟨true, sa, na, ta, ua⟩ = ⟨true, sa, na, ta, true⟩) := hm0
                      clear hm0
                      have HNF : Hid (∀ X : World, Below (wc.alloc (.cells #[.bool true, .string ws, .int .i64 wn, .int .i64 wt, .bool false] 39)).heap.size (wc.alloc (.cells #[.bool true, .string ws, .int .i64 wn, .int .i64 wt, .bool false] 39)) X → X.heap[wc.heap.size]? = some (.cells #[.bool true, .string ws, .int .i64 wn, .int .i64 wt, .bool false] 39) ∧ X.heap[wi.heap.size]? = some (.cells #[.bool true, .string ws, .int .i64 wn, .int .i64 wt, .bool true] 39) ∧ X.heap[wr.heap.size]? = some (.cells #[.string sa, .int .i64 na, .int .i64 ta] 37) ∧ Kp (fun _ => False) wc X) := by
                        intro X hX
                        refine ⟨(hX.block _ (by rw [World.size_alloc]; omega)).trans (heap_alloc_new' wc _), ?_, ?_, ((Kp.refl _ _).alloc _).call hX⟩
                        · rw [hX.block _ (by rw [World.size_alloc]; omega), Below.heap_alloc _ _ _ hwiwc]; exact HBW.out
                        · rw [hX.block _ (by rw [World.size_alloc]; omega), Below.heap_alloc _ _ _ hwrwc]; exact HBA.out
                      go_upto_if 198 with (go_at_call 5; refine (older_any _ _ _ _ _ _ _).mono ?_; rintro e w5 ⟨rfl, hb5⟩; rw [hol]; have q := HNF.out _ hb5; have n0 : w5.cell? ⟨wc.heap.size, 0, none⟩ = some (.bool true) := (by rw [cell_of q.1]; rfl); have n1 : w5.cell? ⟨wc.heap.size, 1, none⟩ = some (.string ws) := (by rw [cell_of q.1]; rfl); have n2 : w5.cell? ⟨wc.heap.size, 2, none⟩ = some (.int .i64 wn) := (by rw [cell_of q.1]; rfl); have n3 : w5.cell? ⟨wc.heap.size, 3, none⟩ = some (.int .i64 wt) := (by rw [cell_of q.1]; rfl); have n4 : w5.cell? ⟨wc.heap.size, 4, none⟩ = some (.bool false) := (by rw [cell_of q.1]; rfl); have nf : ∀ q, w5.frozen? ⟨wc.heap.size, q, none⟩ = false := frozen_of q.1; have v0 : w5.cell? ⟨wi.heap.size, 0, none⟩ = some (.bool true) := (by rw [cell_of q.2.1]; rfl); have v4 : w5.cell? ⟨wi.heap.size, 4, none⟩ = some (.bool true) := (by rw [cell_of q.2.1]; rfl); have m0 : w5.cell? ⟨wr.heap.size, 0, none⟩ = some (.string sa) := (by rw [cell_of q.2.2.1]; rfl); have m1 : w5.cell? ⟨wr.heap.size, 1, none⟩ = some (.int .i64 na) := (by rw [cell_of q.2.2.1]; rfl); have m2 : w5.cell? ⟨wr.heap.size, 2, none⟩ = some (.int .i64 ta) := (by rw [cell_of q.2.2.1]; rfl); clear q)
                      rename (Ending.returned _ = Ending.returned _) => heq
                      cases heq
                      go_upto_region 53 with (fail)
                      rename Below _ _ _ => hb5
                      obtain ⟨W7, hrun7, hI7, hK7⟩ := HFIN.out _ _ (hIc.kp (((((HNF.out _ hb5).2.2.2.setCell (p := ⟨wc.heap.size, 1, none⟩) (.inl (Nat.le_refl _)) (.string sa)).setCell (p := ⟨wc.heap.size, 2, none⟩) (.inl (Nat.le_refl _)) (.int .i64 na)).setCell (p := ⟨wc.heap.size, 3, none⟩) (.inl (Nat.le_refl _)) (.int .i64 ta)).setCell (p := ⟨wc.heap.size, 4, none⟩) (.inl (Nat.le_refl _)) (.bool true)))
                      rw [HM.out] at hrun7
                      simp only [lav, lacs] at hrun7
                      clear hIc HFIN
                      go_wp2
                      go_roundw
                      case rel => exact ⟨k + 1, ks', by omega, by go_num, by rw [HNO.out]; rfl, hI7, hK7, hksl⟩
                      case measure => simp [intOf]; omega
      · have hs' : ((S k).toList == id.toList) = false := by simpa using hs
        have hDs : Dn id S N T St D0 (k + 1) = Dn id S N T St D0 k := by
          conv => lhs; unfold Dn
          rw [if_neg hs]
        have hns : noown id S (k + 1) = noown id S k := by
          conv => lhs; unfold noown
          rw [hs']; simp
        have HS : Hid (Dn id S N T St D0 (k + 1) = Dn id S N T St D0 k ∧ noown id S (k + 1) = noown id S k) := ⟨hDs, hns⟩
        clear hDs hns
        have hsne : ((S k).toList != id.toList) = true := by simpa using hs
        go_wp2
        go_roundw
        case rel => exact ⟨k + 1, ks, by omega, by go_num, by rw [HS.out.2], by rw [HS.out.1]; exact ⟨hI.keys, hI.exp.mono (by omega), hI.shown, hI.own, hI.row, hI.bel, hI.low⟩, by rw [HS.out.1]; exact hK, by omega⟩
        case measure => simp [intOf]; omega
    · have hkn : k = n := by omega
      subst hkn
      obtain ⟨mv, hob, hmv1, hmv2⟩ := hI.own
      go_upto_region 55 with (fail)
      go_cut [] (fun wc => Aft w k S N T St o rb ob eb (sn && noown id S k) (c0 + k) (Dn id S N T St D0 k) ks u14 wc)
      case first =>
        have hne : rb ≠ ob := by
          rintro rfl
          obtain ⟨c, hc, _⟩ := hI.row
          rw [hob] at hc
          cases hc
        go_wp2_with (go_at_call 6; refine (note_any ob rb k k c0 _ _ _ mv id S N T St D0 sn wr hn (by simp only [maxLen]; omega) hI.row hob hne hI.shown HN0).mono ?_; rintro e w6 ⟨rfl, hsh, how, hkp⟩)
        go_meet
        case rel => exact aft_of hI hob hmv1 hmv2 hsh how hkp
      case rest =>
        rename_i hgo
        refine hgo _ _ ?_
        apply HNEXT.out _ _ _ hcut hK (by omega)
end Go.Proofs.Yboneofku
