/-
  The law from 'e := *s' on.
-/
import Derived.Test.YbulkehseRest
import Derived.Deep.DeepCutAuto
namespace Go.Proofs.Ybulkehse
open Go.RowKit

theorem setAt1 (w1 : World) (o1 o3 : Obj) (ss : Array Value) (i : Nat) (v : Value) : (((w1.alloc o1).alloc (.cells ss 41)).alloc o3).setCell ⟨w1.heap.size + 1, i, none⟩ v = (((w1.alloc o1).alloc (.cells (ss.setIfInBounds i v) 41)).alloc o3) := by
  rw [World.setCell_alloc_past (hn := by simp), World.setCell_alloc_at (hn := by simp)]

set_option maxHeartbeats 4000000 in
set_option maxRecDepth 100000 in
theorem law_one (md cT cR : Int) (slow : Bool) (dm role lat : Int) (ja ka : Option Addr) (n c kc : Nat) (z : Nat → Int) (st dg d rr : Int) (pol ad : Bool) (dmr rd rs r : Int) (hl dt : Bool) (da last next now diag : Int) (w w1 : World) (ss : Array Value) (v0 u24 u25 u26 u27 u28 u29 u30 u31 u32 u33 u34 u35 u36 u37 u38 u39 u40 u41 u42 u43 u44 u45 u46 u47 u48 u49 u50 u51 u52 u53 u54 u55 u56 u57 u58 u59 u60 u61 u62 u63 u64 u65 u66 u67 u68 u69 u70 u71 u72 u73 u74 u75 u76 u77 u78 u79 u80 u81 u82 u83 u84 u85 u86 u87 u88 u89 u90 u91 u92 u93 u94 u95 u96 u97 u98 u99 u100 u101 u102 u103 u104 u105 u106 u107 u108 u109 u110 u111 u112 u113 u114 u115 u116 u117 u118 u119 u120 u121 u122 u123 u124 u125 u126 u127 u128 u129 u130 u131 u132 u133 u134 u135 u136 u137 u138 u139 u140 u141 u142 u143 u144 u145 u146 u147 u148 u149 u150 u151 u152 u153 u154 u155 u156 u157 u158 u159 u160 u161 u162 u163 u164 u165 u166 u167 u168 u169 u170 u171 u172 u173 u174 u175 u176 u177 u178 u179 u180 u181 u182 u183 u184 u185 u186 u187 u188 u189 u190 u191 u192 u193 u194 u195 u196 u197 u198 u199 u200 u201 u202 u203 u204 u205 u206 u207 u208 u209 u210 u211 u212 u213 u214 u215 u216 u217 u218 u219 u220 u221 u222 u223 u224 u225 u226 u227 u228 u229 u230 u231 u232 u233 u234 : Value) (hss : SS ss md cT cR slow dm role w1.heap.size lat st dg d rr pol ad dmr rd rs r hl dt da last next) (hn : n ≤ 1048576) (hlt1 : w.heap.size < w1.heap.size) (a7 : w1.cell? ⟨w.heap.size, 7, none⟩ = some (.slice ja n c)) (hJ1 : Jv w1 ja n z) (hK : Jv w1 ka n z) (hbelw : Below w.heap.size w w1) (hiso : ka.isNone = ja.isNone) (h0 : st = 1) :
    Code.wp Yba.prog ((Yba.f3.body.bind (fromR 6)).getD .skip) (bodyPost Yba.prog Yba.f3 fun e w' => e = .returned (.bool true) ∧ Below w.heap.size w w') ⟨#[v0, .int .i64 now, .int .u8 diag, .pointer (some ⟨w.heap.size, 0, none⟩), undef, undef, .bool false, .slice ka n kc, .pointer (some ⟨w1.heap.size, 0, none⟩), .pointer (some ⟨w1.heap.size + 1, 0, none⟩), undef, undef, undef, undef, undef, undef, undef, undef, undef, undef, undef, undef, undef, undef, u24, u25, u26, u27, u28, u29, u30, u31, u32, u33, u34, u35, u36, u37, u38, u39, u40, u41, u42, u43, u44, u45, u46, u47, u48, u49, u50, u51, u52, u53, u54, u55, u56, u57, u58, u59, u60, u61, u62, u63, u64, u65, u66, u67, u68, u69, u70, u71, u72, u73, u74, u75, u76, u77, u78, u79, u80, u81, u82, u83, u84, u85, u86, u87, u88, u89, u90, u91, u92, u93, u94, u95, u96, u97, u98, u99, u100, u101, u102, u103, u104, u105, u106, u107, u108, u109, u110, u111, u112, u113, u114, u115, u116, u117, u118, u119, u120, u121, u122, u123, u124, u125, u126, u127, u128, u129, u130, u131, u132, u133, u134, u135, u136, u137, u138, u139, u140, u141, u142, u143, u144, u145, u146, u147, u148, u149, u150, u151, u152, u153, u154, u155, u156, u157, u158, u159, u160, u161, u162, u163, u164, u165, u166, u167, u168, u169, u170, u171, u172, u173, u174, u175, u176, u177, u178, u179, u180, u181, u182, u183, u184, u185, u186, u187, u188, u189, u190, u191, u192, u193, u194, u195, u196, u197, u198, u199, u200, u201, u202, u203, u204, u205, u206, u207, u208, u209, u210, u211, u212, u213, u214, u215, u216, u217, u218, u219, u220, u221, u222, u223, u224, u225, u226, u227, u228, u229, u230, u231, u232, u233, u234], []⟩ ((w1.alloc (.cells #[.slice ja n c, .int .i64 0] 30)).alloc (.cells ss 41)) := by
  conv => arg 2; whnf
  have hsz := hss.size
  have h1c := hss.one
  have HZ : Hid (ss.size = 23 ∧ ss.all (·.oneCell') = true) := ⟨hsz, h1c⟩
  clear hsz h1c
  have hi : (Yba.prog.info? 41).map (·.size) = some ss.size := by rw [HZ.out.1]; kernel_rfl
  have HI : Hid ((Yba.prog.info? 41).map (·.size) = some ss.size) := hi
  clear hi
  have HS : Hid (SS ss md cT cR slow dm role w1.heap.size lat st dg d rr pol ad dmr rd rs r hl dt da last next) := hss
  have hld : (loadVar 41 ⟨w1.heap.size + 1, 0, none⟩).run Yba.prog ((w1.alloc (.cells #[.slice ja n c, .int .i64 0] 30)).alloc (.cells ss 41)) = .ok (.agg ss) ((w1.alloc (.cells #[.slice ja n c, .int .i64 0] 30)).alloc (.cells ss 41)) := loadVar_of _ _ _ _ _ _ Yba.underlying41 rfl HI.out (fun j v hv => by rw [World.cell?_alloc_at (hn := by simp)]; exact hv)
  have HL : Hid ((loadVar 41 ⟨w1.heap.size + 1, 0, none⟩).run Yba.prog ((w1.alloc (.cells #[.slice ja n c, .int .i64 0] 30)).alloc (.cells ss 41)) = .ok (.agg ss) ((w1.alloc (.cells #[.slice ja n c, .int .i64 0] 30)).alloc (.cells ss 41))) := hld
  clear hld
  go_upto_region 7 with (first | (refine wpList_loadV rfl 41 (.tmp 88) rfl ⟨w1.heap.size + 1, 0, none⟩ rfl (.agg ss) HL.out ?_) | (refine wpList_storeNew rfl rfl 41 (.tmp 10) (.tmp 89) rfl _ ss _ (by simp) rfl rfl HI.out (by rw [HZ.out.1]; rfl) HZ.out.2 ?_))
  subst h0
  have hg := fun W => gap_any 1 pol d r rs W
  generalize gapv 1 pol d r rs = bg at *
  have s3 := HS.out.s3
  have s8 := HS.out.s8
  have s12 := HS.out.s12
  have s10 := HS.out.s10
  have s16 := HS.out.s16
  have s17 := HS.out.s17
  have s18 := HS.out.s18
  have s9 := HS.out.s9
  go_upto_region 44 with (go_at_call 5; refine (hg _).mono ?_; rintro e w' ⟨rfl, rfl⟩)
  have hho := hold_down (w1.heap.size + 1) now diag d r rs pol (((w1.alloc (.cells #[.slice ja n c, .int .i64 0] 30)).alloc (.cells ss 41)).alloc (.cells ((ss.setIfInBounds 18 (.bool true)).setIfInBounds 9 (.int .u8 diag)) 41)) (fun i => by rw [World.frozen?_alloc_past (hn := by simp), World.frozen?_alloc_at (hn := by simp)])
    (by rw [World.cell?_alloc_past (hn := by simp), World.cell?_alloc_at (hn := by simp)]; exact s8)
    (by rw [World.cell?_alloc_past (hn := by simp), World.cell?_alloc_at (hn := by simp)]; exact s10)
    (by rw [World.cell?_alloc_past (hn := by simp), World.cell?_alloc_at (hn := by simp)]; exact s12)
    (by rw [World.cell?_alloc_past (hn := by simp), World.cell?_alloc_at (hn := by simp)]; exact s16)
    (by rw [World.cell?_alloc_past (hn := by simp), World.cell?_alloc_at (hn := by simp)]; exact s17)
    ⟨_, by rw [World.cell?_alloc_past (hn := by simp), World.cell?_alloc_at (hn := by simp)]; exact s9⟩
    ⟨_, by rw [World.cell?_alloc_past (hn := by simp), World.cell?_alloc_at (hn := by simp)]; exact s18⟩
  rw [setAt1, setAt1] at hho
  clear s3 s8 s12 s10 s16 s17 s18 s9
  go_cut [23] (fun s23 wc => s23 = .pointer none ∧ ∃ q, wc = World.drewN (((w1.alloc (.cells #[.slice ja n c, .int .i64 0] 30)).alloc (.cells ((ss.setIfInBounds 18 (.bool true)).setIfInBounds 9 (.int .u8 diag)) 41)).alloc (.cells ((ss.setIfInBounds 18 (.bool true)).setIfInBounds 9 (.int .u8 diag)) 41)) q)
  case first =>
    go_wp2_with (go_at_call 8; refine hho.mono ?_; rintro e w' ⟨rfl, q, rfl⟩)
    go_meet
    case rel => exact ⟨rfl, q, rfl⟩
  case rest =>
    obtain ⟨rfl, q, rfl⟩ := hcut
    have HE := (HS.out.set18 true).set9 diag
    rename_i hgo
    refine hgo _ _ ?_
    exact end_nil w.heap.size w1.heap.size (w1.heap.size + 1) (w1.heap.size + 1 + 1) n c kc ja ka z 0 now diag _ w _ hn HE.neq HE.guard
      (HE.load (fun j => by rw [World.cell?_drewN, World.cell?_alloc_past (hn := by simp), World.cell?_alloc_at (hn := by simp)])) (HE.load (fun j => by rw [World.cell?_drewN, World.cell?_alloc_at (hn := by simp)]))
      (by rw [World.cell?_drewN, World.cell?_alloc_past (hn := by simp; omega), World.cell?_alloc_past (hn := by simp), World.cell?_alloc_at (hn := rfl)]; rfl) (by rw [World.cell?_drewN, past3 _ _ _ _ _ _ hlt1]; exact a7)
      (hJ1.mono (by simp; omega) (fun b o hb => by rw [World.cell?_drewN]; exact past3 _ _ _ _ _ _ hb)) (hK.mono (by simp; omega) (fun b o hb => by rw [World.cell?_drewN]; exact past3 _ _ _ _ _ _ hb)) hiso (below_drewN (below3 hbelw _ _ _) q)
end Go.Proofs.Ybulkehse
