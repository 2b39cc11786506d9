/-
  The law from 'e := *s' on.
-/
import Derived.Test.YbulkehseFin
import Derived.Deep.DeepCutAuto
namespace Go.Proofs.Ybulkehse
open Go.RowKit

theorem nextv_eq (now next last g : Int) : nextv now next last g = if (if next < wrap64 (last + g) then next else wrap64 (last + g)) < now then now else (if next < wrap64 (last + g) then next else wrap64 (last + g)) := by
  unfold nextv
  generalize wrap64 (last + g) = c
  have e : (if c < next then c else next) = (if next < c then next else c) := by
    split <;> split <;> omega
  rw [e]
  generalize (if next < c then next else c) = m
  split <;> split <;> omega

theorem past5 (w1 : World) (o1 o2 o3 o4 o5 : Obj) (b i : Nat) (h : b < w1.heap.size) : (((((w1.alloc o1).alloc o2).alloc o3).alloc o4).alloc o5).cell? ⟨b, i, none⟩ = w1.cell? ⟨b, i, none⟩ := by
  rw [World.cell?_alloc_past (hn := by simp <;> omega), World.cell?_alloc_past (hn := by simp <;> omega), past3 _ _ _ _ _ _ h]
theorem below5 {w w1 : World} (h : Below w.heap.size w w1) (o1 o2 o3 o4 o5 : Obj) : Below w.heap.size w (((((w1.alloc o1).alloc o2).alloc o3).alloc o4).alloc o5) :=
  ((below3 h o1 o2 o3).alloc (by have := h.size; simp <;> omega) _).alloc (by have := h.size; simp <;> omega) _


set_option maxHeartbeats 4000000 in
set_option maxRecDepth 100000 in
theorem law_other (md cT cR : Int) (slow : Bool) (dm role lat : Int) (ja ka : Option Addr) (n c kc : Nat) (z : Nat → Int) (st dg d rr : Int) (pol ad : Bool) (dmr rd rs r : Int) (hl dt : Bool) (da last next now diag : Int) (w w1 : World) (ss : Array Value) (v0 u24 u25 u26 u27 u28 u29 u30 u31 u32 u33 u34 u35 u36 u37 u38 u39 u40 u41 u42 u43 u44 u45 u46 u47 u48 u49 u50 u51 u52 u53 u54 u55 u56 u57 u58 u59 u60 u61 u62 u63 u64 u65 u66 u67 u68 u69 u70 u71 u72 u73 u74 u75 u76 u77 u78 u79 u80 u81 u82 u83 u84 u85 u86 u87 u88 u89 u90 u91 u92 u93 u94 u95 u96 u97 u98 u99 u100 u101 u102 u103 u104 u105 u106 u107 u108 u109 u110 u111 u112 u113 u114 u115 u116 u117 u118 u119 u120 u121 u122 u123 u124 u125 u126 u127 u128 u129 u130 u131 u132 u133 u134 u135 u136 u137 u138 u139 u140 u141 u142 u143 u144 u145 u146 u147 u148 u149 u150 u151 u152 u153 u154 u155 u156 u157 u158 u159 u160 u161 u162 u163 u164 u165 u166 u167 u168 u169 u170 u171 u172 u173 u174 u175 u176 u177 u178 u179 u180 u181 u182 u183 u184 u185 u186 u187 u188 u189 u190 u191 u192 u193 u194 u195 u196 u197 u198 u199 u200 u201 u202 u203 u204 u205 u206 u207 u208 u209 u210 u211 u212 u213 u214 u215 u216 u217 u218 u219 u220 u221 u222 u223 u224 u225 u226 u227 u228 u229 u230 u231 u232 u233 u234 : Value) (hss : SS ss md cT cR slow dm role w1.heap.size lat st dg d rr pol ad dmr rd rs r hl dt da last next) (hn : n ≤ 1048576) (hlt1 : w.heap.size < w1.heap.size) (a7 : w1.cell? ⟨w.heap.size, 7, none⟩ = some (.slice ja n c)) (hJ1 : Jv w1 ja n z) (hK : Jv w1 ka n z) (hbelw : Below w.heap.size w w1) (hiso : ka.isNone = ja.isNone) (hs0 : st ≠ 0) (hs1 : st ≠ 1) (hcT : cT ≤ 9223372036854775807) (hr2 : r ≤ 9223372036854775807) (hl3 : -9223372036854775808 ≤ lat) (hl4 : lat ≤ 9223372036854775807) (hz5 : 0 ≤ rndv n z) (hz6 : rndv n z ≤ 18446744073709551615) :
    Code.wp Yba.prog ((Yba.f3.body.bind (fromR 6)).getD .skip) (bodyPost Yba.prog Yba.f3 fun e w' => e = .returned (.bool true) ∧ Below w.heap.size w w') ⟨#[v0, .int .i64 now, .int .u8 diag, .pointer (some ⟨w.heap.size, 0, none⟩), undef, undef, .bool false, .slice ka n kc, .pointer (some ⟨w1.heap.size, 0, none⟩), .pointer (some ⟨w1.heap.size + 1, 0, none⟩), undef, undef, undef, undef, undef, undef, undef, undef, undef, undef, undef, undef, undef, undef, u24, u25, u26, u27, u28, u29, u30, u31, u32, u33, u34, u35, u36, u37, u38, u39, u40, u41, u42, u43, u44, u45, u46, u47, u48, u49, u50, u51, u52, u53, u54, u55, u56, u57, u58, u59, u60, u61, u62, u63, u64, u65, u66, u67, u68, u69, u70, u71, u72, u73, u74, u75, u76, u77, u78, u79, u80, u81, u82, u83, u84, u85, u86, u87, u88, u89, u90, u91, u92, u93, u94, u95, u96, u97, u98, u99, u100, u101, u102, u103, u104, u105, u106, u107, u108, u109, u110, u111, u112, u113, u114, u115, u116, u117, u118, u119, u120, u121, u122, u123, u124, u125, u126, u127, u128, u129, u130, u131, u132, u133, u134, u135, u136, u137, u138, u139, u140, u141, u142, u143, u144, u145, u146, u147, u148, u149, u150, u151, u152, u153, u154, u155, u156, u157, u158, u159, u160, u161, u162, u163, u164, u165, u166, u167, u168, u169, u170, u171, u172, u173, u174, u175, u176, u177, u178, u179, u180, u181, u182, u183, u184, u185, u186, u187, u188, u189, u190, u191, u192, u193, u194, u195, u196, u197, u198, u199, u200, u201, u202, u203, u204, u205, u206, u207, u208, u209, u210, u211, u212, u213, u214, u215, u216, u217, u218, u219, u220, u221, u222, u223, u224, u225, u226, u227, u228, u229, u230, u231, u232, u233, u234], []⟩ ((w1.alloc (.cells #[.slice ja n c, .int .i64 0] 30)).alloc (.cells ss 41)) := by
  conv => arg 2; whnf
  have hsz := hss.size
  have h1c := hss.one
  have HZ : Hid (ss.size = 23 ∧ ss.all (·.oneCell') = true) := ⟨hsz, h1c⟩
  clear hsz h1c
  have hi : (Yba.prog.info? 41).map (·.size) = some ss.size := by rw [HZ.out.1]; kernel_rfl
  have HI : Hid ((Yba.prog.info? 41).map (·.size) = some ss.size) := hi
  clear hi
  have HS : Hid (SS ss md cT cR slow dm role w1.heap.size lat st dg d rr pol ad dmr rd rs r hl dt da last next) := hss
  have hld : (loadVar 41 ⟨w1.heap.size + 1, 0, none⟩).run Yba.prog ((w1.alloc (.cells #[.slice ja n c, .int .i64 0] 30)).alloc (.cells ss 41)) = .ok (.agg ss) ((w1.alloc (.cells #[.slice ja n c, .int .i64 0] 30)).alloc (.cells ss 41)) := loadVar_of _ _ _ _ _ _ Yba.underlying41 rfl HI.out (fun j v hv => by rw [World.cell?_alloc_at (hn := by simp)]; exact hv)
  have HL : Hid ((loadVar 41 ⟨w1.heap.size + 1, 0, none⟩).run Yba.prog ((w1.alloc (.cells #[.slice ja n c, .int .i64 0] 30)).alloc (.cells ss 41)) = .ok (.agg ss) ((w1.alloc (.cells #[.slice ja n c, .int .i64 0] 30)).alloc (.cells ss 41))) := hld
  clear hld
  go_upto_region 7 with (first | (refine wpList_loadV rfl 41 (.tmp 88) rfl ⟨w1.heap.size + 1, 0, none⟩ rfl (.agg ss) HL.out ?_) | (refine wpList_storeNew rfl rfl 41 (.tmp 10) (.tmp 89) rfl _ ss _ (by simp) rfl rfl HI.out (by rw [HZ.out.1]; rfl) HZ.out.2 ?_))
  have hfin := fun (F : Array Value) (o3 o4 : Obj) (nx k : Int) => hold_fin (F := F) HS.out ja n c z o3 o4 now diag nx k hs0 hs1 hn hJ1 hcT hr2 hl3 hl4 hz5 hz6
  have HF : Hid (∀ (F : Array Value) (o3 o4 : Obj) (nx k : Int), SS F md cT cR slow dm role w1.heap.size lat 1 diag (slowv cT) (rxv slow cR) false ad (rxv slow cR) rd rs r true dt da last nx → Way r (gapv st pol d r rs) (slowv cT) now next last dm lat (rndv n z) nx k →
    Calls Yba.prog 8 #[.pointer (some ⟨w1.heap.size + 1, 0, none⟩), .int .i64 now, .int .u8 diag] (wrld w1 #[.slice ja n c, .int .i64 0] ss o3 o4) fun e w' =>
      e = .returned (.pointer (some ⟨w1.heap.size + 1 + 1 + 1 + 1, 0, none⟩)) ∧ ∃ q, w' = ((wrld w1 #[.slice ja n c, .int .i64 k] F o3 o4).alloc (.cells #[.int .u8 st, .int .u8 1, .int .u8 diag, .int .u32 rd, .pointer none] 48)).drewN q) := hfin
  clear hfin
  have hg := fun W => gap_any st pol d r rs W
  have b0 : (st != 0) = true := by simpa using hs0
  have b1 : (st != 1) = true := by simpa using hs1
  have c0 : (st == 0) = false := by simpa using hs0
  have c1 : (st == 1) = false := by simpa using hs1
  generalize gapv st pol d r rs = bg at *
  have s1 := HS.out.s1
  have s8 := HS.out.s8
  have s9 := HS.out.s9
  have s10 := HS.out.s10
  have s12 := HS.out.s12
  have s16 := HS.out.s16
  have s17 := HS.out.s17
  have s18 := HS.out.s18
  have hTb := slowv_bd cT
  have hT2 : slowv cT ≤ 9223372036854775807 := by unfold slowv; split <;> omega
  obtain ⟨T, hT⟩ : ∃ T, slowv cT = T := ⟨_, rfl⟩
  obtain ⟨X, hX⟩ : ∃ X, rxv slow cR = X := ⟨_, rfl⟩
  rw [hT, hX] at HF
  rw [hT] at hTb hT2
  go_upto_region 18 with (go_at_call 5; refine (hg _).mono ?_; rintro e w' ⟨rfl, rfl⟩)
  have HE : Hid (∃ es, (((ss.setIfInBounds 18 (.bool true)).setIfInBounds 9 (.int .u8 diag)).setIfInBounds 8 (.int .u8 1)) = es ∧ SS es md cT cR slow dm role w1.heap.size lat 1 diag d rr pol ad dmr rd rs r true dt da last next) := ⟨_, rfl, ((HS.out.set18 true).set9 diag).set8 1⟩
  obtain ⟨es, hes, HE⟩ := HE.out
  rw [hes]
  replace HE : Hid (SS es md cT cR slow dm role w1.heap.size lat 1 diag d rr pol ad dmr rd rs r true dt da last next) := HE
  clear hes s8 s9 s10 s12 s16 s17 s18 s1 hg
  have s1 := HE.out.s1
  have s2 := HE.out.s2
  have s3 := HE.out.s3
  have s10 := HE.out.s10
  have s11 := HE.out.s11
  have s12 := HE.out.s12
  have s14 := HE.out.s14
  go_upto_if 117 with (fail)
  go_cut [17] (fun s17 wc => s17 = .int .i64 T ∧ wc = (((w1.alloc (.cells #[.slice ja n c, .int .i64 0] 30)).alloc (.cells ss 41)).alloc (.cells es 41)))
  case first =>
    as_aux_lemma =>
      by_cases hc : cT < 1000000000
      · have e1 : T = 1000000000 := by rw [← hT, slowv, if_pos hc]
        subst e1
        go_wp2
        go_meet
        case rel => exact ⟨rfl, rfl⟩
      · have e1 : T = cT := by rw [← hT, slowv, if_neg hc]
        subst e1
        go_wp2
        go_meet
        case rel => exact ⟨rfl, rfl⟩
  case rest =>
    as_aux_lemma =>
      obtain ⟨rfl, rfl⟩ := hcut
      clear s1
      go_upto_region 22 with (fail)
      go_cut [131] (fun s131 wc => ∃ b, s131 = .bool b ∧ (b = true → X = 1000000000) ∧ (b = false → X = cR) ∧ wc = (((w1.alloc (.cells #[.slice ja n c, .int .i64 0] 30)).alloc (.cells ss 41)).alloc (.cells es 41)))
      case first =>
        as_aux_lemma =>
          cases hslow : slow with
          | false =>
            have e1 : X = cR := by rw [← hX, rxv, if_neg (by simp [hslow])]
            subst hslow
            go_wp2
            go_meet
            case rel => exact ⟨false, rfl, by simp, fun _ => e1, rfl⟩
          | true =>
            subst hslow
            by_cases hz : cR = 0
            · have e1 : X = cR := by rw [← hX, rxv, if_neg (by simp [hz])]
              have hz' : (cR != 0) = false := by simpa using hz
              go_wp2
              go_meet
              case rel => exact ⟨false, rfl, by simp, fun _ => e1, rfl⟩
            · have hz' : (cR != 0) = true := by simpa using hz
              by_cases hc : cR < 1000000000
              · have e1 : X = 1000000000 := by rw [← hX, rxv, if_pos ⟨rfl, hz, hc⟩]
                go_wp2
                go_meet
                case rel => exact ⟨true, rfl, fun _ => e1, by simp, rfl⟩
              · have e1 : X = cR := by rw [← hX, rxv, if_neg (fun h => hc h.2.2)]
                go_wp2
                go_meet
                case rel => exact ⟨false, rfl, by simp, fun _ => e1, rfl⟩
      case rest =>
        as_aux_lemma =>
          obtain ⟨b, rfl, hb1, hb2, rfl⟩ := hcut
          clear s2 s3
          go_upto_if 131 with (fail)
          go_cut [18] (fun s18 wc => s18 = .int .i64 X ∧ wc = (((w1.alloc (.cells #[.slice ja n c, .int .i64 0] 30)).alloc (.cells ss 41)).alloc (.cells es 41)))
          case first =>
            as_aux_lemma =>
              cases b with
              | true =>
                have e1 := hb1 rfl
                subst e1
                go_wp2
                go_meet
                case rel => exact ⟨rfl, rfl⟩
              | false =>
                have e1 := hb2 rfl
                subst e1
                go_wp2
                go_meet
                case rel => exact ⟨rfl, rfl⟩
          case rest =>
            as_aux_lemma =>
              obtain ⟨rfl, rfl⟩ := hcut
              clear hb1 hb2
              go_upto_region 28 with (fail)
              have HE2 : Hid (∃ e2, ((((es.setIfInBounds 10 (.int .i64 T)).setIfInBounds 11 (.int .i64 X)).setIfInBounds 12 (.bool false)).setIfInBounds 14 (.int .i64 X)) = e2 ∧ SS e2 md cT cR slow dm role w1.heap.size lat 1 diag T X false ad X rd rs r true dt da last next) := ⟨_, rfl, (((HE.out.set10 T).set11 X).set12 false).set14 X⟩
              obtain ⟨e2, hes, HE2⟩ := HE2.out
              rw [hes]
              replace HE2 : Hid (SS e2 md cT cR slow dm role w1.heap.size lat 1 diag T X false ad X rd rs r true dt da last next) := HE2
              clear hes s10 s11 s12 s14 HE
              have s4 := HE2.out.s4
              have s7 := HE2.out.s7
              have s15 := HE2.out.s15
              have s17 := HE2.out.s17
              have s21 := HE2.out.s21
              have s22 := HE2.out.s22
              go_upto_if 141 with (fail)
              go_cut [14] (fun s14 wc => ∃ k nx F, s14 = .int .i64 k ∧ SS F md cT cR slow dm role w1.heap.size lat 1 diag T X false ad X rd rs r true dt da last nx ∧ Way r bg T now next last dm lat (rndv n z) nx k ∧ wc = (((w1.alloc (.cells #[.slice ja n c, .int .i64 0] 30)).alloc (.cells ss 41)).alloc (.cells F 41)))
              case first =>
                as_aux_lemma =>
                  clear HF HS HZ HI HL hJ1 a7 hbelw hiso
                  by_cases hr : r = 0
                  · subst hr
                    go_wp2
                    go_meet
                    case rel => exact ⟨0, now, _, rfl, HE2.out.set22 now, Or.inl ⟨rfl, rfl, rfl⟩, rfl⟩
                  · have hr0 : (r == 0) = false := by simpa using hr
                    have htx := fun W => tx_any T r W
                    have hagb : 1 ≤ txv T r ∧ txv T r ≤ 9223372036854775807 := by unfold txv; rw [if_neg hr]; split <;> omega
                    have hg7 := fun W => txgap_any (txv T r) dm lat (rndv n z) W hagb.1 hagb.2 hl3 hl4 hz5 hz6
                    obtain ⟨ag, hag⟩ : ∃ ag, txv T r = ag := ⟨_, rfl⟩
                    rw [hag] at htx hg7 hagb
                    obtain ⟨rnd, hrnd⟩ : ∃ rnd, rndv n z = rnd := ⟨_, rfl⟩
                    rw [hrnd] at hg7 hz5 hz6
                    obtain ⟨g, hgd⟩ : ∃ g, gapd ag dm lat rnd = g := ⟨_, rfl⟩
                    rw [hgd] at hg7
                    go_upto_region 31 with (go_at_call 6; refine (htx _).mono ?_; rintro e w' ⟨rfl, rfl⟩)
                    by_cases hlt : bg = 0 ∨ ag < bg
                    · go_cut [154] (fun s154 wc => s154 = .bool true ∧ wc = (((w1.alloc (.cells #[.slice ja n c, .int .i64 0] 30)).alloc (.cells ss 41)).alloc (.cells e2 41)))
                      case first =>
                        as_aux_lemma =>
                          by_cases hb : bg = 0
                          · subst hb
                            go_wp2
                            go_meet
                            case rel => exact ⟨rfl, rfl⟩
                          · have hb0 : (bg == 0) = false := by simpa using hb
                            have hlt' : ag < bg := by omega
                            go_wp2
                            go_meet
                            case rel => exact ⟨rfl, rfl⟩
                      case rest =>
                        as_aux_lemma =>
                          obtain ⟨rfl, rfl⟩ := hcut
                          go_upto_if 157 with (fail)
                          go_cut [20] (fun s20 wc => s20 = .int .u64 rnd ∧ wc = (((w1.alloc (.cells #[.slice ja n c, .int .i64 0] 30)).alloc (.cells ss 41)).alloc (.cells e2 41)))
                          case first =>
                            as_aux_lemma =>
                              rcases hK with rfl | ⟨h1, b, off, rfl, hb, hc⟩
                              · have e1 : rnd = 0 := by rw [← hrnd]; rfl
                                subst e1
                                go_wp2
                                go_meet
                                case rel => exact ⟨rfl, rfl⟩
                              · have hc0 := hc 0 (by omega)
                                rw [Nat.add_zero] at hc0
                                have e1 : z 0 = rnd := by rw [← hrnd, rndv, if_neg (by omega)]
                                rw [e1] at hc0
                                have hpos : (0 : Int) < n := by omega
                                have hb1 : b < w1.heap.size + 1 := by omega
                                have hb2 : b < w1.heap.size + 1 + 1 := by omega
                                clear hc
                                go_wp2
                                go_meet
                                case rel => exact ⟨rfl, rfl⟩
                          case rest =>
                            as_aux_lemma =>
                              obtain ⟨rfl, rfl⟩ := hcut
                              go_upto_if 177 with (go_at_call 7; refine (hg7 _).mono ?_; rintro e w' ⟨rfl, rfl⟩)
                              have hN := (nextv_eq now next last g).symm
                              obtain ⟨m, hm⟩ : ∃ m, (if next < wrap64 (last + g) then next else wrap64 (last + g)) = m := ⟨_, rfl⟩
                              rw [hm] at hN
                              go_cut [22] (fun s22 wc => s22 = .int .i64 m ∧ wc = (((w1.alloc (.cells #[.slice ja n c, .int .i64 0] 30)).alloc (.cells ss 41)).alloc (.cells e2 41)))
                              case first =>
                                as_aux_lemma =>
                                  by_cases hc : next < wrap64 (last + g)
                                  · have e1 : m = next := by rw [← hm, if_pos hc]
                                    subst e1
                                    go_wp2
                                    go_meet
                                    case rel => exact ⟨rfl, rfl⟩
                                  · have e1 : m = wrap64 (last + g) := by rw [← hm, if_neg hc]
                                    go_wp2
                                    go_meet
                                    case rel => exact ⟨by rw [e1], rfl⟩
                              case rest =>
                                as_aux_lemma =>
                                  obtain ⟨rfl, rfl⟩ := hcut
                                  go_upto_if 182 with (fail)
                                  obtain ⟨nx, hnx⟩ : ∃ nx, nextv now next last g = nx := ⟨_, rfl⟩
                                  rw [hnx] at hN
                                  go_cut [22] (fun s22 wc => s22 = .int .i64 nx ∧ wc = (((w1.alloc (.cells #[.slice ja n c, .int .i64 0] 30)).alloc (.cells ss 41)).alloc (.cells e2 41)))
                                  case first =>
                                    as_aux_lemma =>
                                      by_cases hc : m < now
                                      · have e1 : nx = now := by rw [← hN, if_pos hc]
                                        subst e1
                                        go_wp2
                                        go_meet
                                        case rel => exact ⟨rfl, rfl⟩
                                      · have e1 : nx = m := by rw [← hN, if_neg hc]
                                        subst e1
                                        go_wp2
                                        go_meet
                                        case rel => exact ⟨rfl, rfl⟩
                                  case rest =>
                                    as_aux_lemma =>
                                      obtain ⟨rfl, rfl⟩ := hcut
                                      go_wp2
                                      go_meet
                                      case rel => exact ⟨1, nx, _, rfl, HE2.out.set22 nx, by unfold Way; rw [hag, hrnd, hgd]; exact Or.inr (Or.inr ⟨hr, hlt, hnx.symm, rfl⟩), rfl⟩
                    · have hb : ¬ bg = 0 := fun h => hlt (Or.inl h)
                      have hb0 : (bg == 0) = false := by simpa using hb
                      have hlt' : ¬ ag < bg := fun h => hlt (Or.inr h)
                      go_wp2
                      go_meet
                      case rel => exact ⟨0, next, _, rfl, HE2.out, by unfold Way; rw [hag]; exact Or.inr (Or.inl ⟨hr, by omega, by omega, rfl, rfl⟩), rfl⟩
              case rest =>
                as_aux_lemma =>
                  obtain ⟨k, nx, F, rfl, HEF, hway, rfl⟩ := hcut
                  clear s4 s7 s15 s17 s21 s22
                  replace HEF : Hid (SS F md cT cR slow dm role w1.heap.size lat 1 diag T X false ad X rd rs r true dt da last nx) := HEF
                  have s15 := HEF.out.s15
                  go_upto_region 44 with (fail)
                  have hho := HF.out F (.cells F 41) (.cells #[.int .u8 st, .int .u8 1, .int .u8 diag, .int .u32 rd, .pointer none] 48) nx k HEF.out hway
                  unfold wrld at hho
                  clear s15
                  go_cut [23] (fun s23 wc => s23 = .pointer (some ⟨w1.heap.size + 1 + 1 + 1 + 1, 0, none⟩) ∧ ∃ q, wc = World.drewN (((((w1.alloc (.cells #[.slice ja n c, .int .i64 k] 30)).alloc (.cells F 41)).alloc (.cells F 41)).alloc (.cells #[.int .u8 st, .int .u8 1, .int .u8 diag, .int .u32 rd, .pointer none] 48)).alloc (.cells #[.int .u8 st, .int .u8 1, .int .u8 diag, .int .u32 rd, .pointer none] 48)) q)
                  case first =>
                    as_aux_lemma =>
                      go_wp2_with (go_at_call 8; refine hho.mono ?_; rintro e w' ⟨rfl, q, rfl⟩)
                      go_meet
                      case rel => exact ⟨rfl, q, rfl⟩
                  case rest =>
                    as_aux_lemma =>
                      obtain ⟨rfl, q, rfl⟩ := hcut
                      rename_i hgo
                      refine hgo _ _ ?_
                      exact end_some w.heap.size w1.heap.size (w1.heap.size + 1) (w1.heap.size + 1 + 1) n c kc ja ka z k now diag F w _ (w1.heap.size + 1 + 1 + 1) (w1.heap.size + 1 + 1 + 1 + 1) st rd hn HEF.out.neq HEF.out.guard
                        (HEF.out.load (fun j => by rw [World.cell?_drewN, World.cell?_alloc_past (hn := by simp <;> omega), World.cell?_alloc_past (hn := by simp <;> omega), World.cell?_alloc_past (hn := by simp <;> omega), World.cell?_alloc_at (hn := by simp)]))
                        (HEF.out.load (fun j => by rw [World.cell?_drewN, World.cell?_alloc_past (hn := by simp <;> omega), World.cell?_alloc_past (hn := by simp <;> omega), World.cell?_alloc_at (hn := by simp)]))
                        (by rw [World.cell?_drewN, World.cell?_alloc_past (hn := by simp <;> omega), World.cell?_alloc_past (hn := by simp <;> omega), World.cell?_alloc_past (hn := by simp <;> omega), World.cell?_alloc_past (hn := by simp <;> omega), World.cell?_alloc_at (hn := rfl)]; rfl)
                        (by rw [World.cell?_drewN, past5 _ _ _ _ _ _ _ _ hlt1]; exact a7)
                        (hJ1.mono (by simp <;> omega) (fun b o hb => by rw [World.cell?_drewN]; exact past5 _ _ _ _ _ _ _ _ hb)) (hK.mono (by simp <;> omega) (fun b o hb => by rw [World.cell?_drewN]; exact past5 _ _ _ _ _ _ _ _ hb)) hiso (below_drewN (below5 hbelw _ _ _ _ _) q)
                        (by rw [World.cell?_drewN, World.cell?_alloc_at (hn := by simp)]; rfl) (by rw [World.cell?_drewN, World.cell?_alloc_past (hn := by simp <;> omega), World.cell?_alloc_at (hn := by simp)]; rfl)
                        (by rw [World.cell?_drewN, World.cell?_alloc_at (hn := by simp)]; rfl) (by rw [World.cell?_drewN, World.cell?_alloc_past (hn := by simp <;> omega), World.cell?_alloc_at (hn := by simp)]; rfl)
                        (by rw [World.cell?_drewN, World.cell?_alloc_at (hn := by simp)]; rfl) (by rw [World.cell?_drewN, World.cell?_alloc_past (hn := by simp <;> omega), World.cell?_alloc_at (hn := by simp)]; rfl)
                        (by rw [World.cell?_drewN, World.cell?_alloc_at (hn := by simp)]; rfl) (by rw [World.cell?_drewN, World.cell?_alloc_past (hn := by simp <;> omega), World.cell?_alloc_at (hn := by simp)]; rfl)
                        (by rw [World.cell?_drewN, World.cell?_alloc_at (hn := by simp)]; rfl) (by rw [World.cell?_drewN, World.cell?_alloc_past (hn := by simp <;> omega), World.cell?_alloc_at (hn := by simp)]; rfl)
end Go.Proofs.Ybulkehse
