/-
  The law's last statements: what Hold handed back and left is what was wanted.
-/
import Derived.Test.YbulkehseCut
import Derived.Test.YbulkehseCalls
import Derived.Test.YbulkehseEq
import Derived.Test.YbulkehseLaws
namespace Go.Proofs.Ybulkehse
open Go.RowKit

theorem hide {p : Prop} (h : p) : Hid p := h

theorem Jv.drewN {w : World} {ja : Option Addr} {n : Nat} {z : Nat → Int} (h : Jv w ja n z) (q : Nat) : Jv (w.drewN q) ja n z := by
  rcases h with h | ⟨h1, b, off, ha, hb, hcell⟩
  · exact Or.inl h
  · exact Or.inr ⟨h1, b, off, ha, hb, fun j hj => by simpa using hcell j hj⟩

set_option maxHeartbeats 4000000 in
set_option maxRecDepth 100000 in
theorem end_nil (ab jb sb eb n c kc : Nat) (ja ka : Option Addr) (z : Nat → Int) (k now diag : Int) (F : Array Value) (w wz : World) 
    {u0 u4 u5 u11 u12 u15 u16 u17 u18 u19 u20 u21 u22 u24 u25 u26 u27 u28 u29 u30 u31 u32 u33 u34 u35 u36 u37 u38 u39 u40 u41 u42 u43 u44 u45 u46 u47 u48 u49 u50 u51 u52 u53 u54 u55 u56 u57 u58 u59 u60 u61 u62 u63 u64 u65 u66 u67 u68 u69 u70 u71 u72 u73 u74 u75 u76 u77 u78 u79 u80 u81 u82 u83 u84 u85 u86 u87 u88 u89 u90 u91 u92 u93 u94 u95 u96 u97 u98 u99 u100 u101 u102 u103 u104 u105 u106 u107 u108 u109 u110 u111 u112 u113 u114 u115 u116 u117 u118 u119 u120 u121 u122 u123 u124 u125 u126 u127 u128 u129 u130 u131 u132 u133 u134 u135 u136 u137 u138 u139 u140 u141 u142 u143 u144 u145 u146 u147 u148 u149 u150 u151 u152 u153 u154 u155 u156 u157 u158 u159 u160 u161 u162 u163 u164 u165 u166 u167 u168 u169 u170 u171 u172 u173 u174 u175 u176 u177 u178 u179 u180 u181 u182 u183 u184 u185 u186 u187 u188 u189 u190 u191 u192 u193 u194 u195 u196 u197 u198 u199 u200 u201 u202 u203 u204 u205 u206 u207 u208 u209 u210 u211 u212 u213 u214 u215 u216 u217 u218 u219 u220 u221 u222 u223 u224 u225 u226 u227 u228 u229 u230 u231 u232 u233 u234 : Value}
    (hn : n ≤ 1048576) (hF : ∀ W : World, (binOp .neq 41 (.agg F) (.agg F)).run Yba.prog W = .ok (.bool false) W) (hG : ∀ (x y : Operand) (W : World), (eqGuard .neq 41 x y (.agg F) (.agg F)).run Yba.prog W = .ok () W)
    (hs : ∀ q, (loadVar 41 ⟨sb, 0, none⟩).run Yba.prog (wz.drewN q) = .ok (.agg F) (wz.drewN q)) (he : ∀ q, (loadVar 41 ⟨eb, 0, none⟩).run Yba.prog (wz.drewN q) = .ok (.agg F) (wz.drewN q))
    (hj : wz.cell? ⟨jb, 1, none⟩ = some (.int .i64 k)) (ha : wz.cell? ⟨ab, 7, none⟩ = some (.slice ja n c)) (hJ : Jv wz ja n z) (hK : Jv wz ka n z) (hiso : ka.isNone = ja.isNone) (hbel : Below w.heap.size w wz) :
    Code.wp Yba.prog ((Yba.f3.body.bind (fromR 45)).getD .skip) (bodyPost Yba.prog Yba.f3 fun e w' => e = .returned (.bool true) ∧ Below w.heap.size w w') ⟨#[u0, .int .i64 now, .int .u8 diag, .pointer (some ⟨ab, 0, none⟩), u4, u5, .bool false, .slice ka n kc, .pointer (some ⟨jb, 0, none⟩), .pointer (some ⟨sb, 0, none⟩), .pointer (some ⟨eb, 0, none⟩), u11, u12, .pointer none, .int .i64 k, u15, u16, u17, u18, u19, u20, u21, u22, .pointer none, u24, u25, u26, u27, u28, u29, u30, u31, u32, u33, u34, u35, u36, u37, u38, u39, u40, u41, u42, u43, u44, u45, u46, u47, u48, u49, u50, u51, u52, u53, u54, u55, u56, u57, u58, u59, u60, u61, u62, u63, u64, u65, u66, u67, u68, u69, u70, u71, u72, u73, u74, u75, u76, u77, u78, u79, u80, u81, u82, u83, u84, u85, u86, u87, u88, u89, u90, u91, u92, u93, u94, u95, u96, u97, u98, u99, u100, u101, u102, u103, u104, u105, u106, u107, u108, u109, u110, u111, u112, u113, u114, u115, u116, u117, u118, u119, u120, u121, u122, u123, u124, u125, u126, u127, u128, u129, u130, u131, u132, u133, u134, u135, u136, u137, u138, u139, u140, u141, u142, u143, u144, u145, u146, u147, u148, u149, u150, u151, u152, u153, u154, u155, u156, u157, u158, u159, u160, u161, u162, u163, u164, u165, u166, u167, u168, u169, u170, u171, u172, u173, u174, u175, u176, u177, u178, u179, u180, u181, u182, u183, u184, u185, u186, u187, u188, u189, u190, u191, u192, u193, u194, u195, u196, u197, u198, u199, u200, u201, u202, u203, u204, u205, u206, u207, u208, u209, u210, u211, u212, u213, u214, u215, u216, u217, u218, u219, u220, u221, u222, u223, u224, u225, u226, u227, u228, u229, u230, u231, u232, u233, u234], []⟩ wz := by
  conv => arg 2; whnf
  have hq : ∀ q m, Calls Yba.prog 9 #[.slice ja n c, .slice ka n kc] ((wz.drewN q).drewN m) fun e w' => e = .returned (.bool true) ∧ ∃ q', w' = (wz.drewN q).drewN q' := fun q m =>
    (equal_any ja ka n c kc z ((wz.drewN q).drewN m) hn ((hJ.drewN q).drewN m) ((hK.drewN q).drewN m)).mono fun e w' ⟨h1, q', h2⟩ => ⟨h1, m + q', by rw [h2, World.drewN_drewN]⟩
  have q1 : ∀ W : World, (binOp .eql 23 (.slice ja n c) (.slice none 0 0)).run Yba.prog W = .ok (.bool ja.isNone) W := fun W => Lib.run_eql_slice_nil W _ _ _ _ _ _ _ Yba.underlying23
  have q2 : ∀ W : World, (binOp .eql 23 (.slice ka n kc) (.slice none 0 0)).run Yba.prog W = .ok (.bool ja.isNone) W := fun W => by rw [← hiso]; exact Lib.run_eql_slice_nil W _ _ _ _ _ _ _ Yba.underlying23
  clear hJ hK hiso
  generalize ja.isNone = iso at *
  go_wp2
  go_quiet (fail)
  go_wp2
  have hq' := hq nq
  have hbel' := below_drewN hbel nq
  have hj' : (wz.drewN nq).cell? ⟨jb, 1, none⟩ = some (.int .i64 k) := by simpa using hj
  have ha' : (wz.drewN nq).cell? ⟨ab, 7, none⟩ = some (.slice ja n c) := by simpa using ha
  clear hq hj ha hbel
  have hs' : ∀ m, (loadVar 41 ⟨sb, 0, none⟩).run Yba.prog ((wz.drewN nq).drewN m) = .ok (.agg F) ((wz.drewN nq).drewN m) := fun m => by rw [World.drewN_drewN]; exact hs _
  have he' : ∀ m, (loadVar 41 ⟨eb, 0, none⟩).run Yba.prog ((wz.drewN nq).drewN m) = .ok (.agg F) ((wz.drewN nq).drewN m) := fun m => by rw [World.drewN_drewN]; exact he _
  have HL := And.intro (hide hs') (And.intro (hide he') (And.intro (hide hF) (hide hG)))
  clear hs he hs' he' hF hG
  generalize wz.drewN nq = wq at *
  refine wp_region_quiet_lit (by kernel_rfl) (by kernel_rfl) ?_
  go_big_quiet_step (fail)
  go_big_quiet_step (fail)
  refine wpQuiet_loadV rfl 41 (.tmp 213) rfl ⟨sb, 0, none⟩ rfl (.agg F) (fun W ⟨m, hm⟩ => by rw [hm]; exact HL.1.out m) ?_
  refine wpQuiet_loadV rfl 41 (.tmp 10) rfl ⟨eb, 0, none⟩ rfl (.agg F) (fun W ⟨m, hm⟩ => by rw [hm]; exact HL.2.1.out m) ?_
  refine wpQuiet_cmp rfl .neq 41 41 (.tmp 214) (.tmp 215) rfl (.agg F) (.agg F) rfl rfl (.bool false) (fun W => HL.2.2.2.out _ _ W) HL.2.2.1.out ?_
  refine wpQuiet_nil ?_
  intro _ hw'
  obtain ⟨nq2, hw''⟩ := hw'
  subst hw''
  clear HL
  go_wp2_with (go_at_call 9; refine (hq' _).mono ?_; rintro e w' ⟨rfl, q, rfl⟩)
  go_ret
  exact ⟨by simp, below_drewN hbel' _⟩

set_option maxHeartbeats 4000000 in
set_option maxRecDepth 100000 in
theorem end_some (ab jb sb eb n c kc : Nat) (ja ka : Option Addr) (z : Nat → Int) (k now diag : Int) (F : Array Value) (w wz : World) (tb gb : Nat) (st rd : Int)
    {u0 u4 u5 u11 u12 u15 u16 u17 u18 u19 u20 u21 u22 u24 u25 u26 u27 u28 u29 u30 u31 u32 u33 u34 u35 u36 u37 u38 u39 u40 u41 u42 u43 u44 u45 u46 u47 u48 u49 u50 u51 u52 u53 u54 u55 u56 u57 u58 u59 u60 u61 u62 u63 u64 u65 u66 u67 u68 u69 u70 u71 u72 u73 u74 u75 u76 u77 u78 u79 u80 u81 u82 u83 u84 u85 u86 u87 u88 u89 u90 u91 u92 u93 u94 u95 u96 u97 u98 u99 u100 u101 u102 u103 u104 u105 u106 u107 u108 u109 u110 u111 u112 u113 u114 u115 u116 u117 u118 u119 u120 u121 u122 u123 u124 u125 u126 u127 u128 u129 u130 u131 u132 u133 u134 u135 u136 u137 u138 u139 u140 u141 u142 u143 u144 u145 u146 u147 u148 u149 u150 u151 u152 u153 u154 u155 u156 u157 u158 u159 u160 u161 u162 u163 u164 u165 u166 u167 u168 u169 u170 u171 u172 u173 u174 u175 u176 u177 u178 u179 u180 u181 u182 u183 u184 u185 u186 u187 u188 u189 u190 u191 u192 u193 u194 u195 u196 u197 u198 u199 u200 u201 u202 u203 u204 u205 u206 u207 u208 u209 u210 u211 u212 u213 u214 u215 u216 u217 u218 u219 u220 u221 u222 u223 u224 u225 u226 u227 u228 u229 u230 u231 u232 u233 u234 : Value}
    (hn : n ≤ 1048576) (hF : ∀ W : World, (binOp .neq 41 (.agg F) (.agg F)).run Yba.prog W = .ok (.bool false) W) (hG : ∀ (x y : Operand) (W : World), (eqGuard .neq 41 x y (.agg F) (.agg F)).run Yba.prog W = .ok () W)
    (hs : ∀ q, (loadVar 41 ⟨sb, 0, none⟩).run Yba.prog (wz.drewN q) = .ok (.agg F) (wz.drewN q)) (he : ∀ q, (loadVar 41 ⟨eb, 0, none⟩).run Yba.prog (wz.drewN q) = .ok (.agg F) (wz.drewN q))
    (hj : wz.cell? ⟨jb, 1, none⟩ = some (.int .i64 k)) (ha : wz.cell? ⟨ab, 7, none⟩ = some (.slice ja n c)) (hJ : Jv wz ja n z) (hK : Jv wz ka n z) (hiso : ka.isNone = ja.isNone) (hbel : Below w.heap.size w wz)
    (g0 : wz.cell? ⟨gb, 0, none⟩ = some (.int .u8 st)) (t0 : wz.cell? ⟨tb, 0, none⟩ = some (.int .u8 st)) (g1 : wz.cell? ⟨gb, 1, none⟩ = some (.int .u8 1)) (t1 : wz.cell? ⟨tb, 1, none⟩ = some (.int .u8 1)) (g2 : wz.cell? ⟨gb, 2, none⟩ = some (.int .u8 diag)) (t2 : wz.cell? ⟨tb, 2, none⟩ = some (.int .u8 diag)) (g3 : wz.cell? ⟨gb, 3, none⟩ = some (.int .u32 rd)) (t3 : wz.cell? ⟨tb, 3, none⟩ = some (.int .u32 rd)) (g4 : wz.cell? ⟨gb, 4, none⟩ = some (.pointer none)) (t4 : wz.cell? ⟨tb, 4, none⟩ = some (.pointer none)) :
    Code.wp Yba.prog ((Yba.f3.body.bind (fromR 45)).getD .skip) (bodyPost Yba.prog Yba.f3 fun e w' => e = .returned (.bool true) ∧ Below w.heap.size w w') ⟨#[u0, .int .i64 now, .int .u8 diag, .pointer (some ⟨ab, 0, none⟩), u4, u5, .bool false, .slice ka n kc, .pointer (some ⟨jb, 0, none⟩), .pointer (some ⟨sb, 0, none⟩), .pointer (some ⟨eb, 0, none⟩), u11, u12, .pointer (some ⟨tb, 0, none⟩), .int .i64 k, u15, u16, u17, u18, u19, u20, u21, u22, .pointer (some ⟨gb, 0, none⟩), u24, u25, u26, u27, u28, u29, u30, u31, u32, u33, u34, u35, u36, u37, u38, u39, u40, u41, u42, u43, u44, u45, u46, u47, u48, u49, u50, u51, u52, u53, u54, u55, u56, u57, u58, u59, u60, u61, u62, u63, u64, u65, u66, u67, u68, u69, u70, u71, u72, u73, u74, u75, u76, u77, u78, u79, u80, u81, u82, u83, u84, u85, u86, u87, u88, u89, u90, u91, u92, u93, u94, u95, u96, u97, u98, u99, u100, u101, u102, u103, u104, u105, u106, u107, u108, u109, u110, u111, u112, u113, u114, u115, u116, u117, u118, u119, u120, u121, u122, u123, u124, u125, u126, u127, u128, u129, u130, u131, u132, u133, u134, u135, u136, u137, u138, u139, u140, u141, u142, u143, u144, u145, u146, u147, u148, u149, u150, u151, u152, u153, u154, u155, u156, u157, u158, u159, u160, u161, u162, u163, u164, u165, u166, u167, u168, u169, u170, u171, u172, u173, u174, u175, u176, u177, u178, u179, u180, u181, u182, u183, u184, u185, u186, u187, u188, u189, u190, u191, u192, u193, u194, u195, u196, u197, u198, u199, u200, u201, u202, u203, u204, u205, u206, u207, u208, u209, u210, u211, u212, u213, u214, u215, u216, u217, u218, u219, u220, u221, u222, u223, u224, u225, u226, u227, u228, u229, u230, u231, u232, u233, u234], []⟩ wz := by
  conv => arg 2; whnf
  have hq : ∀ q m, Calls Yba.prog 9 #[.slice ja n c, .slice ka n kc] ((wz.drewN q).drewN m) fun e w' => e = .returned (.bool true) ∧ ∃ q', w' = (wz.drewN q).drewN q' := fun q m =>
    (equal_any ja ka n c kc z ((wz.drewN q).drewN m) hn ((hJ.drewN q).drewN m) ((hK.drewN q).drewN m)).mono fun e w' ⟨h1, q', h2⟩ => ⟨h1, m + q', by rw [h2, World.drewN_drewN]⟩
  have q1 : ∀ W : World, (binOp .eql 23 (.slice ja n c) (.slice none 0 0)).run Yba.prog W = .ok (.bool ja.isNone) W := fun W => Lib.run_eql_slice_nil W _ _ _ _ _ _ _ Yba.underlying23
  have q2 : ∀ W : World, (binOp .eql 23 (.slice ka n kc) (.slice none 0 0)).run Yba.prog W = .ok (.bool ja.isNone) W := fun W => by rw [← hiso]; exact Lib.run_eql_slice_nil W _ _ _ _ _ _ _ Yba.underlying23
  have hT : ∀ W : World, (binOp .neq 48 (.agg #[.int .u8 st, .int .u8 1, .int .u8 diag, .int .u32 rd, .pointer none]) (.agg #[.int .u8 st, .int .u8 1, .int .u8 diag, .int .u32 rd, .pointer none])).run Yba.prog W = .ok (.bool false) W := fun W => neq48 st 1 diag rd W
  clear hJ hK hiso
  generalize ja.isNone = iso at *
  go_wp2
  go_quiet (fail)
  go_wp2
  have hq' := hq nq
  have hbel' := below_drewN hbel nq
  have hj' : (wz.drewN nq).cell? ⟨jb, 1, none⟩ = some (.int .i64 k) := by simpa using hj
  have ha' : (wz.drewN nq).cell? ⟨ab, 7, none⟩ = some (.slice ja n c) := by simpa using ha
  clear hq hj ha hbel
  have hs' : ∀ m, (loadVar 41 ⟨sb, 0, none⟩).run Yba.prog ((wz.drewN nq).drewN m) = .ok (.agg F) ((wz.drewN nq).drewN m) := fun m => by rw [World.drewN_drewN]; exact hs _
  have he' : ∀ m, (loadVar 41 ⟨eb, 0, none⟩).run Yba.prog ((wz.drewN nq).drewN m) = .ok (.agg F) ((wz.drewN nq).drewN m) := fun m => by rw [World.drewN_drewN]; exact he _
  have HL := And.intro (hide hs') (And.intro (hide he') (And.intro (hide hF) (hide hG)))
  clear hs he hs' he' hF hG
  generalize wz.drewN nq = wq at *
  refine wp_region_quiet_lit (by kernel_rfl) (by kernel_rfl) ?_
  go_big_quiet_step (fail)
  go_big_quiet_step (fail)
  refine wpQuiet_loadV rfl 41 (.tmp 213) rfl ⟨sb, 0, none⟩ rfl (.agg F) (fun W ⟨m, hm⟩ => by rw [hm]; exact HL.1.out m) ?_
  refine wpQuiet_loadV rfl 41 (.tmp 10) rfl ⟨eb, 0, none⟩ rfl (.agg F) (fun W ⟨m, hm⟩ => by rw [hm]; exact HL.2.1.out m) ?_
  refine wpQuiet_cmp rfl .neq 41 41 (.tmp 214) (.tmp 215) rfl (.agg F) (.agg F) rfl rfl (.bool false) (fun W => HL.2.2.2.out _ _ W) HL.2.2.1.out ?_
  refine wpQuiet_nil ?_
  intro _ hw'
  obtain ⟨nq2, hw''⟩ := hw'
  subst hw''
  clear HL
  go_wp2_with (go_at_call 9; refine (hq' _).mono ?_; rintro e w' ⟨rfl, q, rfl⟩)
  go_ret
  exact ⟨by simp, below_drewN hbel' _⟩

end Go.Proofs.Ybulkehse
