/-
  The law from 'e := *s' on.
-/
import Derived.Test.YbulkehseSS
import Derived.Deep.DeepCutAuto
namespace Go.Proofs.Ybulkehse
open Go.RowKit

theorem Jv.mono {w w' : World} {ja : Option Addr} {n : Nat} {z : Nat → Int} (h : Jv w ja n z) (hs : w.heap.size ≤ w'.heap.size) (hc : ∀ b o, b < w.heap.size → w'.cell? ⟨b, o, none⟩ = w.cell? ⟨b, o, none⟩) : Jv w' ja n z := by
  rcases h with h | ⟨h1, b, off, ha, hb, hcell⟩
  · exact Or.inl h
  · exact Or.inr ⟨h1, b, off, ha, by omega, fun j hj => (hc b _ hb).trans (hcell j hj)⟩

theorem past3 (w1 : World) (o1 o2 o3 : Obj) (b i : Nat) (h : b < w1.heap.size) : (((w1.alloc o1).alloc o2).alloc o3).cell? ⟨b, i, none⟩ = w1.cell? ⟨b, i, none⟩ := by
  rw [World.cell?_alloc_past (hn := by simp; omega), World.cell?_alloc_past (hn := by simp; omega), World.cell?_alloc_past (hn := h)]
theorem below3 {w w1 : World} (h : Below w.heap.size w w1) (o1 o2 o3 : Obj) : Below w.heap.size w (((w1.alloc o1).alloc o2).alloc o3) :=
  ((h.alloc h.size _).alloc (by have := h.size; simp; omega) _).alloc (by have := h.size; simp; omega) _

set_option maxHeartbeats 4000000 in
set_option maxRecDepth 100000 in
theorem law_zero (md cT cR : Int) (slow : Bool) (dm role lat : Int) (ja ka : Option Addr) (n c kc : Nat) (z : Nat → Int) (st dg d rr : Int) (pol ad : Bool) (dmr rd rs r : Int) (hl dt : Bool) (da last next now diag : Int) (w w1 : World) (ss : Array Value) (v0 u24 u25 u26 u27 u28 u29 u30 u31 u32 u33 u34 u35 u36 u37 u38 u39 u40 u41 u42 u43 u44 u45 u46 u47 u48 u49 u50 u51 u52 u53 u54 u55 u56 u57 u58 u59 u60 u61 u62 u63 u64 u65 u66 u67 u68 u69 u70 u71 u72 u73 u74 u75 u76 u77 u78 u79 u80 u81 u82 u83 u84 u85 u86 u87 u88 u89 u90 u91 u92 u93 u94 u95 u96 u97 u98 u99 u100 u101 u102 u103 u104 u105 u106 u107 u108 u109 u110 u111 u112 u113 u114 u115 u116 u117 u118 u119 u120 u121 u122 u123 u124 u125 u126 u127 u128 u129 u130 u131 u132 u133 u134 u135 u136 u137 u138 u139 u140 u141 u142 u143 u144 u145 u146 u147 u148 u149 u150 u151 u152 u153 u154 u155 u156 u157 u158 u159 u160 u161 u162 u163 u164 u165 u166 u167 u168 u169 u170 u171 u172 u173 u174 u175 u176 u177 u178 u179 u180 u181 u182 u183 u184 u185 u186 u187 u188 u189 u190 u191 u192 u193 u194 u195 u196 u197 u198 u199 u200 u201 u202 u203 u204 u205 u206 u207 u208 u209 u210 u211 u212 u213 u214 u215 u216 u217 u218 u219 u220 u221 u222 u223 u224 u225 u226 u227 u228 u229 u230 u231 u232 u233 u234 : Value) (hss : SS ss md cT cR slow dm role w1.heap.size lat st dg d rr pol ad dmr rd rs r hl dt da last next) (hn : n ≤ 1048576) (hlt1 : w.heap.size < w1.heap.size) (a7 : w1.cell? ⟨w.heap.size, 7, none⟩ = some (.slice ja n c)) (hJ1 : Jv w1 ja n z) (hK : Jv w1 ka n z) (hbelw : Below w.heap.size w w1) (hiso : ka.isNone = ja.isNone) (h0 : st = 0) :
    Code.wp Yba.prog ((Yba.f3.body.bind (fromR 6)).getD .skip) (bodyPost Yba.prog Yba.f3 fun e w' => e = .returned (.bool true) ∧ Below w.heap.size w w') ⟨#[v0, .int .i64 now, .int .u8 diag, .pointer (some ⟨w.heap.size, 0, none⟩), undef, undef, .bool false, .slice ka n kc, .pointer (some ⟨w1.heap.size, 0, none⟩), .pointer (some ⟨w1.heap.size + 1, 0, none⟩), undef, undef, undef, undef, undef, undef, undef, undef, undef, undef, undef, undef, undef, undef, u24, u25, u26, u27, u28, u29, u30, u31, u32, u33, u34, u35, u36, u37, u38, u39, u40, u41, u42, u43, u44, u45, u46, u47, u48, u49, u50, u51, u52, u53, u54, u55, u56, u57, u58, u59, u60, u61, u62, u63, u64, u65, u66, u67, u68, u69, u70, u71, u72, u73, u74, u75, u76, u77, u78, u79, u80, u81, u82, u83, u84, u85, u86, u87, u88, u89, u90, u91, u92, u93, u94, u95, u96, u97, u98, u99, u100, u101, u102, u103, u104, u105, u106, u107, u108, u109, u110, u111, u112, u113, u114, u115, u116, u117, u118, u119, u120, u121, u122, u123, u124, u125, u126, u127, u128, u129, u130, u131, u132, u133, u134, u135, u136, u137, u138, u139, u140, u141, u142, u143, u144, u145, u146, u147, u148, u149, u150, u151, u152, u153, u154, u155, u156, u157, u158, u159, u160, u161, u162, u163, u164, u165, u166, u167, u168, u169, u170, u171, u172, u173, u174, u175, u176, u177, u178, u179, u180, u181, u182, u183, u184, u185, u186, u187, u188, u189, u190, u191, u192, u193, u194, u195, u196, u197, u198, u199, u200, u201, u202, u203, u204, u205, u206, u207, u208, u209, u210, u211, u212, u213, u214, u215, u216, u217, u218, u219, u220, u221, u222, u223, u224, u225, u226, u227, u228, u229, u230, u231, u232, u233, u234], []⟩ ((w1.alloc (.cells #[.slice ja n c, .int .i64 0] 30)).alloc (.cells ss 41)) := by
  conv => arg 2; whnf
  have hsz := hss.size
  have h1c := hss.one
  have HZ : Hid (ss.size = 23 ∧ ss.all (·.oneCell') = true) := ⟨hsz, h1c⟩
  clear hsz h1c
  have hi : (Yba.prog.info? 41).map (·.size) = some ss.size := by rw [HZ.out.1]; kernel_rfl
  have HI : Hid ((Yba.prog.info? 41).map (·.size) = some ss.size) := hi
  clear hi
  have HS : Hid (SS ss md cT cR slow dm role w1.heap.size lat st dg d rr pol ad dmr rd rs r hl dt da last next) := hss
  have hld : (loadVar 41 ⟨w1.heap.size + 1, 0, none⟩).run Yba.prog ((w1.alloc (.cells #[.slice ja n c, .int .i64 0] 30)).alloc (.cells ss 41)) = .ok (.agg ss) ((w1.alloc (.cells #[.slice ja n c, .int .i64 0] 30)).alloc (.cells ss 41)) := loadVar_of _ _ _ _ _ _ Yba.underlying41 rfl HI.out (fun j v hv => by rw [World.cell?_alloc_at (hn := by simp)]; exact hv)
  have HL : Hid ((loadVar 41 ⟨w1.heap.size + 1, 0, none⟩).run Yba.prog ((w1.alloc (.cells #[.slice ja n c, .int .i64 0] 30)).alloc (.cells ss 41)) = .ok (.agg ss) ((w1.alloc (.cells #[.slice ja n c, .int .i64 0] 30)).alloc (.cells ss 41))) := hld
  clear hld
  go_upto_region 7 with (first | (refine wpList_loadV rfl 41 (.tmp 88) rfl ⟨w1.heap.size + 1, 0, none⟩ rfl (.agg ss) HL.out ?_) | (refine wpList_storeNew rfl rfl 41 (.tmp 10) (.tmp 89) rfl _ ss _ (by simp) rfl rfl HI.out (by rw [HZ.out.1]; rfl) HZ.out.2 ?_))
  have s8 : ss[8]? = some (.int .u8 0) := by rw [HS.out.s8, h0]
  have hho := hold_admin (w1.heap.size + 1) now diag (((w1.alloc (.cells #[.slice ja n c, .int .i64 0] 30)).alloc (.cells ss 41)).alloc (.cells ss 41)) (by rw [World.cell?_alloc_past (hn := by simp), World.cell?_alloc_at (hn := by simp)]; exact s8)
  go_upto_region 44 with (fail)
  go_cut [23] (fun s23 wc => s23 = .pointer none ∧ wc = (((w1.alloc (.cells #[.slice ja n c, .int .i64 0] 30)).alloc (.cells ss 41)).alloc (.cells ss 41)))
  case first =>
    go_wp2_with (go_at_call 8; refine hho.mono ?_; rintro e w' ⟨rfl, rfl⟩)
    go_meet
    case rel => exact ⟨rfl, rfl⟩
  case rest =>
    obtain ⟨rfl, rfl⟩ := hcut
    rename_i hgo
    refine hgo _ _ ?_
    exact end_nil w.heap.size w1.heap.size (w1.heap.size + 1) (w1.heap.size + 1 + 1) n c kc ja ka z 0 now diag ss w _ hn HS.out.neq HS.out.guard
      (HS.out.load (fun j => by rw [World.cell?_alloc_past (hn := by simp), World.cell?_alloc_at (hn := by simp)])) (HS.out.load (fun j => by rw [World.cell?_alloc_at (hn := by simp)]))
      (by rw [World.cell?_alloc_past (hn := by simp; omega), World.cell?_alloc_past (hn := by simp), World.cell?_alloc_at (hn := rfl)]; rfl) (by rw [past3 _ _ _ _ _ _ hlt1]; exact a7)
      (hJ1.mono (by simp; omega) (fun b o hb => past3 _ _ _ _ _ _ hb)) (hK.mono (by simp; omega) (fun b o hb => past3 _ _ _ _ _ _ hb)) hiso (below3 hbelw _ _ _)
end Go.Proofs.Ybulkehse
