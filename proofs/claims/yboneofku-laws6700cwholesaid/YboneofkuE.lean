/-
  The law's last loop: the items are as they were built.
-/
import Derived.Test.YboneofkuInv
import Derived.Test.YboneofkuCut
namespace Go.Proofs.Yboneofku
open Go.RowKit

section
variable {P : Program} {ops : Array Oper} {rest : List Oper} {op : Oper} {a : Act}

/-- a load in a region that only reads. -/
theorem wpQuiet_loadV {C : World → Prop} {Q : Act → Prop} (hw : Region.wanted op (yielded ops a.tmps) = true) (ty : TypeId) (x : Operand) (ho : op.op = .load ty x) (ad : Addr) (hx : a.eval x = .pointer (some ad)) (v : Value)
    (hrun : ∀ w, C w → (loadVar ty ad).run P w = .ok v w) (h : wpQuiet P ops C Q rest (a.put op.dst v)) : wpQuiet P ops C Q (op :: rest) a :=
  BigFrame.wpQuiet_want hw fun K hK => ⟨v, fun w hC => by
    unfold Oper.quietAt execOp
    simp only [ho, hx, Instr.loadAt, Instr.sureAddr, Sem.run_bind, Sem.run_pure, Result.andThen_ok, hrun w hC]
    exact ⟨rfl, rfl⟩, hK _ h⟩

/-- a comparison in a region that only reads. -/
theorem wpQuiet_cmp {C : World → Prop} {Q : Act → Prop} (hw : Region.wanted op (yielded ops a.tmps) = true) (b : BinOp) (ty ty' : TypeId) (x y : Operand) (ho : op.op = .binOp b ty x y ty') (vx vy : Value) (hx : a.eval x = vx) (hy : a.eval y = vy) (v : Value)
    (hg : ∀ w, (eqGuard b ty x y vx vy).run P w = .ok () w) (hrun : ∀ w, (binOp b ty vx vy).run P w = .ok v w) (h : wpQuiet P ops C Q rest (a.put op.dst v)) : wpQuiet P ops C Q (op :: rest) a :=
  BigFrame.wpQuiet_want hw fun K hK => ⟨v, fun w _ => by
    unfold Oper.quietAt execOp
    simp only [ho, hx, hy, Sem.run_bind, Sem.run_pure, Result.andThen_ok, hg w, hrun w]
    exact ⟨rfl, rfl⟩, hK _ h⟩
end

/-- the twelve cells of an item's metadata. -/
def mdv (st : Bool) (t : Int) (s : ByteArray) (n : Int) : Array Value := #[.bool st, .int .i64 t, .string s, .int .i64 n, .int .i64 0, .int .i64 0, .int .i64 0, .int .i64 0, .bool false, .int .u64 0, .int .u64 0, .int .i64 0]

theorem guard45 (st : Bool) (t : Int) (s : ByteArray) (n : Int) (x y : Operand) (w : World) : (eqGuard .neq 45 x y (.agg (mdv st t s n)) (.agg (mdv st t s n))).run Ybgu.prog w = .ok () w := by
  kernel_rfl

set_option maxHeartbeats 1000000 in
theorem neq45 (st : Bool) (t : Int) (s : ByteArray) (n : Int) (w : World) : (binOp .neq 45 (.agg (mdv st t s n)) (.agg (mdv st t s n))).run Ybgu.prog w = .ok (.bool false) w := by
  have hS : Ybgu.prog.underlying 45 = some (.struct (Ybgu.prog.fieldsOf 45)) := by kernel_rfl
  have hp : Ybgu.prog.stoodInHeld 45 = false := by kernel_rfl
  have h43 : ∀ W : World, (Op.equalIn 9999 43 (.agg #[.int .u64 0, .int .u64 0]) (.agg #[.int .u64 0, .int .u64 0])).run Ybgu.prog W = .ok true W := fun W => by kernel_rfl
  unfold mdv
  rw [run_neq_struct, show (10000 : Nat) = 9999 + 1 from rfl, run_equalIn_agg w 9999 45 _ _ hS hp]
  simp only [Program.fieldsOf, Ybgu.underlying45]
  go_simp

theorem info45 : (Ybgu.prog.info? 45).map (·.size) = some 12 := by kernel_rfl

theorem md_load {w : World} {rb n : Nat} {S : Nat → ByteArray} {N T : Nat → Int} {St : Nat → Bool} (h : w.rowIs rb 48 (n * 20) (rowI S N T St)) {k : Nat} (hk : k < n) : (loadVar 45 ⟨rb, k * 20 + 1, none⟩).run Ybgu.prog w = .ok (.agg (mdv (St k) (T k) (S k) (N k))) w := by
  have := run_loadVar_mid (P := Ybgu.prog) w rb (k * 20 + 1) 45 (mdv (St k) (T k) (S k) (N k)).toList _ (fun j v hv => by
    have hj : j < 12 := (List.getElem?_eq_some_iff.1 hv).1
    have hr := row_range h hk (j + 1) v (by
      rw [← hv]
      rcases (by omega : j = 0 ∨ j = 1 ∨ j = 2 ∨ j = 3 ∨ j = 4 ∨ j = 5 ∨ j = 6 ∨ j = 7 ∨ j = 8 ∨ j = 9 ∨ j = 10 ∨ j = 11) with rfl | rfl | rfl | rfl | rfl | rfl | rfl | rfl | rfl | rfl | rfl | rfl <;> rfl)
    rw [← hr]
    congr 2
    omega) Ybgu.underlying45 rfl info45
  simpa using this

theorem rowIs_drewN {w : World} {b t n : Nat} {f : Nat → Value} (h : w.rowIs b t n f) (q : Nat) : (w.drewN q).rowIs b t n f := by
  obtain ⟨c, h1, h2⟩ := h
  exact ⟨c, by simpa using h1, h2⟩

set_option maxHeartbeats 4000000 in
set_option linter.unusedSimpArgs false in
set_option maxRecDepth 20000 in
theorem stageE (ae an : Option Addr) (n m cape capn : Nat) (S : Nat → ByteArray) (N T : Nat → Int) (St : Nat → Bool) (id : ByteArray) (nm sn : Bool) (o : Int) (rb ob eb : Nat) (w : World) (rb2 : Nat) (W : World) (hn : n ≤ 2048) (hr1 : W.rowIs rb 48 (n * 20) (rowI S N T St)) (hr2 : W.rowIs rb2 48 (n * 20) (rowI S N T St)) (hb : Below w.heap.size w W)
    (u5 u6 u7 u8 u9 u10 u14 u16 u17 u18 u19 u20 u21 u22 u23 u24 u25 u26 u27 u28 u29 u30 u31 u32 u33 u34 u35 u36 u38 u39 u40 u41 u42 u43 u44 u45 u46 u47 u48 u49 u50 u51 u52 u53 u54 u55 u56 u57 u58 u59 u60 u61 u62 u63 u64 u65 u66 u67 u68 u69 u70 u71 u72 u73 u74 u75 u76 u77 u78 u79 u80 u81 u82 u83 u84 u85 u86 u87 u88 u89 u90 u91 u92 u93 u94 u95 u96 u97 u98 u99 u100 u101 u102 u103 u104 u105 u106 u107 u108 u109 u110 u111 u112 u113 u114 u115 u116 u117 u118 u119 u120 u121 u122 u123 u124 u125 u126 u127 u128 u129 u130 u131 u132 u133 u134 u135 u136 u137 u138 u139 u140 u141 u142 u143 u144 u145 u146 u147 u148 u149 u150 u151 u152 u153 u154 u155 u156 u157 u158 u159 u160 u161 u162 u163 u164 u165 u166 u167 u168 u169 u170 u171 u172 u173 u174 u175 u176 u177 u178 u179 u180 u181 u182 u183 u184 u185 u186 u187 u188 u189 u190 u191 u192 u193 u194 u195 u196 u197 u198 u199 u200 u201 u202 u203 u204 u205 u206 u207 u208 u209 u210 u211 u212 u213 u214 u215 u216 u217 u218 u219 u220 u221 u222 u223 u224 u225 u226 u227 u228 u229 u230 u231 u232 u233 u234 u235 u236 u237 u238 u239 u240 u241 u242 u243 u244 u245 u246 u247 u248 u249 u250 u251 u252 u253 u254 u255 u256 u257 u258 u259 u260 u261 u262 u263 u264 u265 u266 u267 u268 u269 u270 u271 u272 u273 u274 u275 u276 u277 u278 u279 u280 u281 u282 u283 u284 u285 u286 u287 u288 u289 u290 u291 u292 u293 u294 u295 u296 u297 u298 u299 u300 u301 u302 u303 u304 u305 u306 u307 u308 u309 u310 u311 u312 u313 u314 u315 u316 u317 u318 u319 u320 : Value) :
    Code.wp Ybgu.prog ((Ybgu.f3.body.bind (fromR 70)).getD .skip) (bodyPost Ybgu.prog Ybgu.f3 fun e w' => e = .returned (.bool true) ∧ Below w.heap.size w w') ⟨#[.slice ae n cape, .string id, .slice an m capn, .bool nm, .int .i64 o, u5, u6, u7, u8, u9, u10, .slice (some ⟨rb, 0, none⟩) n n, .pointer (some ⟨ob, 0, none⟩), .map (some eb), u14, .bool sn, u16, u17, u18, u19, u20, u21, u22, u23, u24, u25, u26, u27, u28, u29, u30, u31, u32, u33, u34, u35, u36, .slice (some ⟨rb2, 0, none⟩) n n, u38, u39, u40, u41, u42, u43, u44, u45, u46, u47, u48, u49, u50, u51, u52, u53, u54, u55, u56, u57, u58, u59, u60, u61, u62, u63, u64, u65, u66, u67, u68, u69, u70, u71, u72, u73, u74, u75, u76, u77, u78, u79, u80, u81, u82, u83, u84, u85, u86, u87, u88, u89, u90, u91, u92, u93, u94, u95, u96, u97, u98, u99, u100, u101, u102, u103, u104, u105, u106, u107, u108, u109, u110, u111, u112, u113, u114, u115, u116, u117, u118, u119, u120, u121, u122, u123, u124, u125, u126, u127, u128, u129, u130, u131, u132, u133, u134, u135, u136, u137, u138, u139, u140, u141, u142, u143, u144, u145, u146, u147, u148, u149, u150, u151, u152, u153, u154, u155, u156, u157, u158, u159, u160, u161, u162, u163, u164, u165, u166, u167, u168, u169, u170, u171, u172, u173, u174, u175, u176, u177, u178, u179, u180, u181, u182, u183, u184, u185, u186, u187, u188, u189, u190, u191, u192, u193, u194, u195, u196, u197, u198, u199, u200, u201, u202, u203, u204, u205, u206, u207, u208, u209, u210, u211, u212, u213, u214, u215, u216, u217, u218, u219, u220, u221, u222, u223, u224, u225, u226, u227, u228, u229, u230, u231, u232, u233, u234, u235, u236, u237, u238, u239, u240, u241, u242, u243, u244, u245, u246, u247, u248, u249, u250, u251, u252, u253, u254, u255, u256, u257, u258, u259, u260, u261, u262, u263, u264, u265, u266, u267, u268, u269, u270, u271, u272, u273, u274, u275, u276, u277, u278, u279, u280, u281, u282, u283, u284, u285, u286, u287, u288, u289, u290, u291, u292, u293, u294, u295, u296, u297, u298, u299, u300, u301, u302, u303, u304, u305, u306, u307, u308, u309, u310, u311, u312, u313, u314, u315, u316, u317, u318, u319, u320], []⟩ W := by
  conv => arg 2; whnf
  go_wp2
  go_loopw [290] (fun i wr => ∃ q : Nat, q ≤ n ∧ i = .int .i64 q ∧ wr.rowIs rb 48 (n * 20) (rowI S N T St) ∧ wr.rowIs rb2 48 (n * 20) (rowI S N T St) ∧ Below w.heap.size w wr) (fun i _ => n - (intOf i).toNat)
  case atStart => exact ⟨0, Nat.zero_le _, rfl, hr1, hr2, hb⟩
  case round =>
    obtain ⟨q, hq, rfl, k1, k2, hbq⟩ := hrel
    clear hr1 hr2 hb
    by_cases hlt : q < n
    · have HL1 : Hid (∀ x, (loadVar 45 ⟨rb, q * 20 + 1, none⟩).run Ybgu.prog (wr.drewN x) = .ok (.agg (mdv (St q) (T q) (S q) (N q))) (wr.drewN x)) := fun x => md_load (rowIs_drewN k1 x) hlt
      have HL2 : Hid (∀ x, (loadVar 45 ⟨rb2, q * 20 + 1, none⟩).run Ybgu.prog (wr.drewN x) = .ok (.agg (mdv (St q) (T q) (S q) (N q))) (wr.drewN x)) := fun x => md_load (rowIs_drewN k2 x) hlt
      have r0 : wr.cell? ⟨rb, q * 20, none⟩ = some (.string ⟨#[]⟩) := by
        have := k1.cell (i := q * 20) (by omega)
        rw [this, rowI, show q * 20 / 20 = q by omega, show q * 20 % 20 = 0 by omega]; rfl
      have r13 : wr.cell? ⟨rb, q * 20 + 13, none⟩ = some (.slice none 0 0) := by
        have := k1.cell (i := q * 20 + 13) (by omega)
        rw [this, rowI, show (q * 20 + 13) / 20 = q by omega, show (q * 20 + 13) % 20 = 13 by omega]; rfl
      go_upto_region 73 with (fail)
      refine wp_region_quiet_lit (by kernel_rfl) (by kernel_rfl) ?_
      go_big_quiet_step (fail)
      go_big_quiet_step (fail)
      go_big_quiet_step (fail)
      go_big_quiet_step (fail)
      refine wpQuiet_loadV rfl 45 (.tmp 296) rfl ⟨rb, q * 20 + 1, none⟩ rfl (.agg (mdv (St q) (T q) (S q) (N q))) (fun X ⟨x, hx⟩ => by rw [hx]; exact HL1.out x) ?_
      simp only [Act.put, List.getElem_toArray, List.getElem_cons_succ, List.getElem_cons_zero, List.setIfInBounds_toArray, List.set_cons_zero, List.set_cons_succ]
      go_big_quiet_step (fail)
      go_big_quiet_step (fail)
      go_big_quiet_step (fail)
      go_big_quiet_step (fail)
      refine wpQuiet_loadV rfl 45 (.tmp 301) rfl ⟨rb2, q * 20 + 1, none⟩ rfl (.agg (mdv (St q) (T q) (S q) (N q))) (fun X ⟨x, hx⟩ => by rw [hx]; exact HL2.out x) ?_
      refine wpQuiet_cmp rfl .neq 45 45 (.tmp 297) (.tmp 302) rfl (.agg (mdv (St q) (T q) (S q) (N q))) (.agg (mdv (St q) (T q) (S q) (N q))) rfl rfl (.bool false) (fun X => guard45 _ _ _ _ _ _ X) (fun X => neq45 _ _ _ _ X) ?_
      simp only [Act.put, List.getElem_toArray, List.getElem_cons_succ, List.getElem_cons_zero, List.setIfInBounds_toArray, List.set_cons_zero, List.set_cons_succ]
      repeat go_big_quiet_step (fail)
      refine wpQuiet_nil ?_
      intro _ hw'
      obtain ⟨nq2, hw''⟩ := hw'
      subst hw''
      go_wp2
      go_roundw
      case rel => exact ⟨q + 1, by omega, by go_num, rowIs_drewN k1 _, rowIs_drewN k2 _, below_drewN hbq _⟩
      case measure => simp [intOf]; omega
    · have hqn : q = n := by omega
      subst hqn
      go_wp2
      go_ret
      exact ⟨rfl, hbq⟩
end Go.Proofs.Yboneofku
