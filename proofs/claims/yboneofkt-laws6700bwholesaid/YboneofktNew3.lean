/-
  newContents: each session's gets, the largest first.
-/
import Derived.Test.YboneofktNew2
namespace Go.Proofs.Yboneofkt
open Go.RowKit

/-- a session's gets, in their order. -/
def Ps.seg (p : Ps) (s : Nat) : List Nat := (List.range (p.cn s)).map fun i => p.ro (p.fi s + i)
theorem seg_len (p : Ps) (s : Nat) : (p.seg s).length = p.cn s := by simp [Ps.seg]
theorem seg_get (p : Ps) (s i : Nat) (h : i < p.cn s) : (p.seg s)[i]! = p.ro (p.fi s + i) := by
  rw [getElem!_pos _ i (by rw [seg_len]; exact h)]
  simp [Ps.seg]

/-- a session's gets by size. -/
def SegP (p : Ps) (w : World) (Bb ct : Nat) (W : World) (s : Nat) (v : Value) : Prop := ∃ (b cap : Nat) (ds : List Nat), v = .slice (some ⟨b, 0, none⟩) (p.cn s) cap ∧ w.heap.size ≤ b ∧ b ≠ Bb ∧ b ≠ ct ∧ ds.Perm (p.seg s) ∧ ds.Pairwise (fun x y => (p.sz y : Int) ≤ (p.sz x : Int)) ∧ Rw W b 21 (p.cn s) (fun i => .int .i32 ((ds[i]! : Nat) : Int))

theorem Kp.trans' {X Y : List Nat} {a b c : World} (h : Kp X a b) (k : Kp Y b c) (hy : ∀ i, i < a.heap.size → i ∉ Y ∨ i ∈ X) : Kp X a c :=
  ⟨k.os.trans h.os, k.tape.trans h.tape, k.output.trans h.output, Nat.le_trans h.size k.size, fun i hi hx => by
    rcases hy i hi with h' | h'
    · exact (k.block i (Nat.lt_of_lt_of_le hi h.size) h').trans (h.block i hi hx)
    · exact absurd h' hx⟩

section
variable {p : Ps} {w : World} {cv ct Bb Bz Bh Bk : Nat} {rv : Value} {BSf BSg : Nat → Value} {MKf : Nat → Int} {SZf : Nat → Nat} {lm : Int} {W W' : World}
theorem SegP.kp {s : Nat} {v : Value} (h : SegP p w Bb ct W s v) (hk : Kp [Bb] W W') : SegP p w Bb ct W' s v := by
  obtain ⟨b, cap, ds, h1, h2, h3, h4, h5, h6, h7⟩ := h
  exact ⟨b, cap, ds, h1, h2, h3, h4, h5, h6, h7.kp hk (by simpa using h3)⟩

theorem N2.kpB (h : N2 p w cv ct Bb Bz Bh Bk rv BSf MKf SZf lm W) (hI : NIn p w) (hk : Kp [Bb] W W') (hb : Rw W' Bb 24 p.S BSg) : N2 p w cv ct Bb Bz Bh Bk rv BSg MKf SZf lm W' := by
  have hx := hI.xr.lt
  have hm := hI.marks.lt
  obtain ⟨g1, g2, g3, g4, g5, g6⟩ := h.ge
  have n1 : cv ≠ Bb := Ne.symm (h.bs.ne_block h.cvb (by decide))
  have n2 : ct ≠ Bb := Ne.symm (h.bs.ne_block h.ctb (by decide))
  exact { kp := h.kp.trans' hk (fun i hi => .inl (by simp; omega))
          xr := h.xr.kp hk (by simp; omega)
          marks := h.marks.kp hk (by simp; omega)
          zs := h.zs.kp hk (by simpa using h.zs.ne h.bs (by decide))
          bs := hb
          hs := h.hs.kp hk (by simpa using h.hs.ne h.bs (by decide))
          ks := h.ks.kp hk (by simpa using h.ks.ne h.bs (by decide))
          rd := by
            refine ⟨h.rd.1, ?_⟩
            rcases h.rd.2 with hn | ⟨g, cap, cur, h1, h2, h3, h4⟩
            · exact .inl hn
            · exact .inr ⟨g, cap, cur, h1, h2, (hk.block g (block_lt h3) (by simpa using Ne.symm (h.bs.ne_block h3 (by decide)))).trans h3, h4⟩
          cvb := (hk.block cv (block_lt h.cvb) (by simpa using n1)).trans h.cvb
          ctb := (hk.block ct (block_lt h.ctb) (by simpa using n2)).trans h.ctb
          ge := h.ge
          ne := h.ne }
end

/-- so many readers are done. -/
def Segs (p : Ps) (w : World) (Bb ct : Nat) (BSf : Nat → Value) (i : Nat) (W : World) : Prop := ∀ s, s < p.S → (s ∈ (rdl p.cn p.S).take i → SegP p w Bb ct W s (BSf s)) ∧ (s ∉ (rdl p.cn p.S).take i → BSf s = .slice none 0 0)

/-- what newContents answers. -/
def ResN (p : Ps) (w : World) (e : Ending) (w' : World) : Prop := ∃ (cv ct Bb Bz Bh Bk : Nat) (rv : Value) (BSf : Nat → Value), e = .returned (.pointer (some ⟨ct, 0, none⟩)) ∧ N2 p w cv ct Bb Bz Bh Bk rv BSf (MK p.L p.rs p.st p.ln p.mks p.m) p.sz (p.L + p.m) w' ∧ ∀ s, s < p.S → (0 < p.cn s → SegP p w Bb ct w' s (BSf s)) ∧ (p.cn s = 0 → BSf s = .slice none 0 0)

/-- behind the clone of session s. -/
def AC (p : Ps) (Bb : Nat) (BSf : Nat → Value) (s : Nat) (W wc : World) : Prop := ∃ b cap, W.heap.size ≤ b ∧ Kp [Bb] W wc ∧ Rw wc Bb 24 p.S (fun i => if i = s then .slice (some ⟨b, 0, none⟩) (p.cn s) cap else BSf i) ∧ Rw wc b 21 (p.cn s) (fun i => .int .i32 (p.ro (p.fi s + i) : Int))

theorem set_cell_ne {w : World} {B j b i : Nat} {v : Value} (h : b ≠ B) : (w.setCell ⟨B, j, none⟩ v).cell? ⟨b, i, none⟩ = w.cell? ⟨b, i, none⟩ := World.cell?_of_block (w := w) (Below.heap_setCell w ⟨B, j, none⟩ v b h)
theorem Kp.cell {X : List Nat} {w w' : World} {b i : Nat} {v : Value} (k : Kp X w w') (hl : b < w.heap.size) (hx : b ∉ X) (h : w.cell? ⟨b, i, none⟩ = some v) : w'.cell? ⟨b, i, none⟩ = some v := by
  rw [← h]
  exact World.cell?_of_block (w := w) (k.block b hl hx)
theorem mem_take_succ {l : List Nat} {i s : Nat} (hi : i < l.length) (hs : s = l[i]!) (x : Nat) : x ∈ l.take (i + 1) ↔ x ∈ l.take i ∨ x = s := by
  rw [List.take_add_one, List.mem_append, hs, getElem!_pos l i hi]
  simp [hi]
theorem mem_rdl (cn : Nat → Nat) (S s : Nat) : s ∈ rdl cn S ↔ s < S ∧ 0 < cn s := by simp [rdl]

set_option maxHeartbeats 8000000 in
set_option maxRecDepth 100000 in
set_option linter.unusedSimpArgs false in
theorem stage3 (p : Ps) (w : World) (hk : Ok p) (hI : NIn p w) : AtN14 p w (ResN p w) := by
  unfold AtN14
  intro cv ct Bb Bz Bh Bk rv W hN u1 u4 u5 u6 u7 u8 u9 u10 u11 u12 u13 u14 u15 u16 u17 u18 u19 u20 u21 u22 u23 u24 u25 u26 u27 u28 u29 u30 u31 u32 u33 u34 u35 u36 u37 u38 u39 u40 u41 u42 u43 u44 u45 u46 u47 u48 u49 u50 u51 u52 u53 u54 u55 u56 u57 u58 u59 u60 u61 u62 u63 u64 u65 u66 u67 u68 u69 u70 u71 u72 u73 u74 u75 u76 u77 u78 u79 u80 u81 u82 u83 u84 u85 u86 u87 u88 u89 u90 u91 u92 u93 u94 u95 u96 u97 u98 u99 u100 u101 u102 u103 u104 u105 u106 u107 u108 u109 u110 u111 u112 u113 u114 u115 u116 u117 u118 u119 u120 u121 u122 u123 u124 u125 u126 u127 u128 u129 u130 u131 u132 u133 u134 u135 u136 u137 u138 u139 u140 u141 u142 u143 u144 u145 u146
  have HI : Hid (NIn p w) := hI
  have HK : Hid (Ok p) := hk
  have hm := hk.m
  have hS := hk.S
  have hcapo := hk.capo
  have HN : Hid (N2 p w cv ct Bb Bz Bh Bk rv (fun _ => .slice none 0 0) (MK p.L p.rs p.st p.ln p.mks p.m) p.sz (p.L + p.m) W) := hN
  obtain ⟨kR, hkR⟩ : ∃ kR, kR = (rdl p.cn p.S).length := ⟨_, rfl⟩
  have hkl : kR ≤ 5 := by rw [hkR]; exact Nat.le_trans (rdl_len _ _) hS
  obtain ⟨pr, cR, hrv, hpr⟩ : ∃ pr cR, rv = .slice pr kR cR ∧ (0 < kR → ∃ g, pr = some ⟨g, 0, none⟩) := by
    rcases hN.rd.2 with ⟨h1, h2⟩ | ⟨g, cap, cur, h1, _⟩
    · exact ⟨none, 0, by rw [h1, hkR, h2], fun h => by omega⟩
    · exact ⟨some ⟨g, 0, none⟩, cap, by rw [h1, hkR], fun _ => ⟨g, rfl⟩⟩
  subst hrv
  have z0 : W.cell? ⟨cv, 0, none⟩ = some (.pointer (some ⟨ct, 0, none⟩)) := by rw [cell_of hN.cvb]; rfl
  have z1 : W.cell? ⟨ct, 1, none⟩ = some (.slice pr kR cR) := by rw [cell_of hN.ctb]; rfl
  have HKR : Hid (kR = (rdl p.cn p.S).length) := hkR
  clear hk hN hI hkR
  conv => arg 2; whnf
  conv => arg 4; dsimp only
  go_wp2
  clear z0 z1
  go_loopw [98] (fun v98 wr => ∃ (i : Nat) (BSf : Nat → Value), v98 = .int .i64 (i : Int) ∧ i ≤ kR ∧ N2 p w cv ct Bb Bz Bh Bk (.slice pr kR cR) BSf (MK p.L p.rs p.st p.ln p.mks p.m) p.sz (p.L + p.m) wr ∧ Segs p w Bb ct BSf i wr) (fun v98 _ => kR - (intOf v98).toNat)
  case atStart => exact ⟨0, _, rfl, Nat.zero_le _, HN.out, fun s _ => ⟨fun h => by simp at h, fun _ => rfl⟩⟩
  case round =>
    rename World => W2
    obtain ⟨i, BSf, rfl, hik, hN, hseg⟩ := hrel
    clear HN
    have z0 : W2.cell? ⟨cv, 0, none⟩ = some (.pointer (some ⟨ct, 0, none⟩)) := by rw [cell_of hN.cvb]; rfl
    by_cases hlt : i < kR
    · have hlt' : (i : Int) < (kR : Int) := by omega
      obtain ⟨g, rfl⟩ := hpr (by omega)
      obtain ⟨s, hs⟩ : ∃ s, s = (rdl p.cn p.S)[i]! := ⟨_, rfl⟩
      have hil : i < (rdl p.cn p.S).length := by rw [← HKR.out]; exact hlt
      have hmem : s ∈ rdl p.cn p.S := by rw [hs, getElem!_pos _ i hil]; exact List.getElem_mem _
      obtain ⟨hsS, hcp⟩ := (mem_rdl _ _ _).1 hmem
      have cg : W2.cell? ⟨g, i, none⟩ = some (.int .i32 (s : Int)) := by
        have h := hN.rd
        rw [← HKR.out] at h
        rw [h.cellAt i (by omega)]
        unfold i32s
        rw [List.getElem?_map, hs, getElem!_pos _ i hil]
        simp [hil]
      obtain ⟨fi, hfi⟩ : ∃ fi, fi = p.fi s := ⟨_, rfl⟩
      obtain ⟨cn, hcn⟩ : ∃ cn, cn = p.cn s := ⟨_, rfl⟩
      have q1 := HK.out.fi s hsS
      have q2 := HK.out.cn s
      have x1 := hN.x1 HI.out
      have x9 := hN.x9 HI.out
      have s2 := hN.old HI.out.lts.2.2.2.1 HI.out.nm.2.2.2.1 HI.out.nx.2.2.2.1 (HI.out.ses s hsS)
      have s3 := hN.old HI.out.lts.2.2.2.1 HI.out.nm.2.2.2.1 HI.out.nx.2.2.2.1 (HI.out.sfi s hsS)
      have ct2 : W2.cell? ⟨ct, 2, none⟩ = some (.slice (some ⟨Bb, 0, none⟩) p.S p.S) := by rw [cell_of hN.ctb]; rfl
      have HRO : Hid (∀ i, i < cn → W2.cell? ⟨p.ob, fi + i, none⟩ = some (.int .i32 (p.ro (fi + i) : Int))) := by
        intro i hi
        exact hN.old HI.out.lts.2.2.2.2 HI.out.nm.2.2.2.2 HI.out.nx.2.2.2.2.1 (HI.out.ord (fi + i) (by omega))
      have HSEG : Hid (Segs p w Bb ct BSf i W2) := hseg
      have HN2 : Hid (N2 p w cv ct Bb Bz Bh Bk (.slice (some ⟨g, 0, none⟩) kR cR) BSf (MK p.L p.rs p.st p.ln p.mks p.m) p.sz (p.L + p.m) W2) := hN
      have HEQ : Hid (fi = p.fi s ∧ cn = p.cn s ∧ s = (rdl p.cn p.S)[i]!) := ⟨hfi, hcn, hs⟩
      rw [← hfi] at s3 q1
      rw [← hcn] at s2 q1 q2 hcp
      have hfc : fi < p.capo := by omega
      obtain ⟨fe, hfe⟩ : ∃ fe : Nat, (fi : Int) + (cn : Int) = fe := ⟨fi + cn, by omega⟩
      have hw32 : IntKind.i32.wrap (fe : Int) = fe := by simp [IntKind.wrap, IntKind.bits, IntKind.signed]; omega
      have hfe1 : fi ≤ fe := by omega
      have hfe2 : fe ≤ p.capo := by omega
      have hfe3 : (fi : Int) ≤ (fe : Int) := by omega
      have hfe4 : (fe : Int) ≤ (p.capo : Int) := by omega
      have hfe5 : ¬ p.capo - fi = 0 := by omega
      have hfe6 : ¬ p.capo = fi := by omega
      have hfe7 : fe - fi = cn := by omega
      have bf := hN.bs.frozen s
      have bc := hN.bs.cell hsS
      have n1 : cv ≠ Bb := Ne.symm (hN.bs.ne_block hN.cvb (by decide))
      have n2 : ct ≠ Bb := Ne.symm (hN.bs.ne_block hN.ctb (by decide))
      have n3 : p.xb ≠ Bb := by have := HI.out.xr.lt; have := hN.ge.2.2.1; omega
      have l1 := block_lt hN.cvb
      have l2 := block_lt hN.ctb
      have l3 := hN.xr.lt
      have l4 := hN.bs.lt
      have l5 := hN.zs.lt
      have HL : Hid (cv < W2.heap.size ∧ ct < W2.heap.size ∧ p.xb < W2.heap.size ∧ Bb < W2.heap.size ∧ Bz < W2.heap.size) := ⟨l1, l2, l3, l4, l5⟩
      clear hN hseg hfi hcn hs hmem hil l1 l2 l3 l4 l5
      go_wp2
      go_quiet (fail)
      clear cg x1 s2 s3
      go_upto_region 18 with (fail)
      go_cut [] (fun wc => AC p Bb BSf s W2 wc)
      case first =>
        go_region_held3 (fun w' => w'.cell? ⟨cv, 0, none⟩ = some (.pointer (some ⟨ct, 0, none⟩)) ∧ w'.cell? ⟨ct, 2, none⟩ = some (.slice (some ⟨Bb, 0, none⟩) p.S p.S) ∧ w'.cell? ⟨p.xb, 9, none⟩ = some (.slice (some ⟨p.ob, 0, none⟩) p.m p.capo)) (first | exact ⟨k0, k1, k2⟩ | exact ⟨(set_cell_ne n1).trans k0, (set_cell_ne n2).trans k1, (set_cell_ne n3).trans k2⟩ | go_keep) (first | (go_at_call 4; refine (clone4 p.ob fi cn _ (fun i => (p.ro (fi + i) : Int)) _ (by omega) (by exact HRO.out)).mono ?_; rintro r w' ⟨b, cap, rfl, hcap, hge, hrw, hbl⟩; have k0 := (hbl.cell (p := ⟨cv, 0, none⟩) HL.out.1).trans z0; have k1 := (hbl.cell (p := ⟨ct, 2, none⟩) HL.out.2.1).trans ct2; have k2 := (hbl.cell (p := ⟨p.xb, 9, none⟩) HL.out.2.2.1).trans x9; have k3 := (hbl.cell (p := ⟨Bb, s, none⟩) HL.out.2.2.2.1).trans bc; have k4 := (hbl.frozen (p := ⟨Bb, s, none⟩) HL.out.2.2.2.1).trans bf))
        go_wp2
        go_meet
        case rel =>
          have hbl' : Below W2.heap.size W2 w' := ⟨hbl.os, hbl.tape, hbl.output, hbl.size, hbl.block⟩
          have hge' : W2.heap.size ≤ b := hge
          have hBb := HL.out.2.2.2.1
          obtain ⟨e1, e2, e3⟩ := HEQ.out
          rw [e2, e1] at hrw
          rw [e2]
          exact ⟨b, cap, hge', ((Kp.refl _ W2).below hbl').setCell (by simp) _, (HN2.out.bs.below hbl' hBb).set s _, hrw.setOther (by show b ≠ Bb; omega) _⟩
      case rest =>
        obtain ⟨b, cap, hgb, hkp, hrb, hr⟩ := hcut
        rename World => W5
        obtain ⟨e1, e2, e3⟩ := HEQ.out
        have hl := HL.out
        have y0 := hkp.cell hl.1 (by simpa using n1) z0
        have y2 := hkp.cell hl.2.1 (by simpa using n2) ct2
        have y3 : W5.cell? ⟨ct, 3, none⟩ = some (.slice (some ⟨Bz, 0, none⟩) p.m p.m) := hkp.cell hl.2.1 (by simpa using n2) (by rw [cell_of HN2.out.ctb]; rfl)
        have yb := hrb.cell hsS
        simp only [if_true] at yb
        rw [← e2] at yb
        have hzr := HN2.out.zs.kp hkp (by simpa using HN2.out.zs.ne HN2.out.bs (by decide))
        have hsz5 := hkp.size
        have hsl := seg_len p s
        have hks : ∀ k ∈ p.seg s, k < p.m := by
          intro k hk
          unfold Ps.seg at hk
          obtain ⟨j, hj, rfl⟩ := List.mem_map.1 hk
          have := List.mem_range.1 hj
          exact HK.out.ro _ (by omega)
        have hcall := sortF12 (fun g => (p.sz g : Int)) p.m cv ct Bz p.m b cap (p.seg s) W5 (by omega) hks (by rw [hsl, ← e2]; exact q2) y0 y3 (fun i hi => hzr.cell hi) (by omega) (by omega) (by omega) (by omega) (by omega) (by omega) (by rw [hsl]; exact hr.congr (fun i hi => by rw [seg_get p s i hi]))
        rw [hsl, ← e2] at hcall
        have HC : Hid (Calls Ybgt.prog 12 #[.slice (some ⟨b, 0, none⟩) cn cap, .func (.func 13) #[] #[.pointer (some ⟨cv, 0, none⟩)]] W5 (ResS (fun g => (p.sz g : Int)) b (p.seg s) W5)) := hcall
        have HKP : Hid (Kp [Bb] W2 W5 ∧ Rw W5 Bb 24 p.S (fun i => if i = s then .slice (some ⟨b, 0, none⟩) (p.cn s) cap else BSf i)) := ⟨hkp, hrb⟩
        clear hcall hkp hrb hr hzr y3 hks hsl e1 e2 e3 hl z0 ct2 x9 bc bf
        go_wp2_with (go_at_call 12; refine HC.out.mono ?_; rintro e W6 ⟨rfl, ds, hperm, hpw, hrw, honly⟩)
        obtain ⟨e1, e2, e3⟩ := HEQ.out
        have hl := HL.out
        have hkp6 : Kp [Bb] W2 W6 := HKP.out.1.trans' honly.kp (fun i hi => .inl (by simp; omega))
        have hrb6 := HKP.out.2.kp honly.kp (by simp; omega)
        have HN6 : Hid (N2 p w cv ct Bb Bz Bh Bk (.slice (some ⟨g, 0, none⟩) kR cR) (fun i => if i = s then .slice (some ⟨b, 0, none⟩) (p.cn s) cap else BSf i) (MK p.L p.rs p.st p.ln p.mks p.m) p.sz (p.L + p.m) W6) := HN2.out.kpB HI.out hkp6 hrb6
        have HS6 : Hid (Segs p w Bb ct (fun i => if i = s then .slice (some ⟨b, 0, none⟩) (p.cn s) cap else BSf i) (i + 1) W6) := by
          intro x hx
          have hmt := mem_take_succ (l := rdl p.cn p.S) (i := i) (s := s) (by rw [← HKR.out]; exact hlt) e3 x
          by_cases hxs : x = s
          · subst hxs
            refine ⟨fun _ => ?_, fun h => absurd (hmt.2 (.inr rfl)) h⟩
            simp only [if_true]
            have := HN2.out.kp.size
            exact ⟨b, cap, ds, rfl, by omega, by omega, by omega, hperm, hpw, by rw [seg_len] at hrw; exact hrw⟩
          · simp only [if_neg hxs]
            refine ⟨fun h => ?_, fun h => ?_⟩
            · rcases hmt.1 h with h | h
              · exact ((HSEG.out x hx).1 h).kp hkp6
              · exact absurd h hxs
            · exact (HSEG.out x hx).2 (fun h' => h (hmt.2 (.inl h')))
        clear hkp6 hrb6 hrw honly hperm hpw e1 e2 e3 hl y0 y2 yb
        go_wp2
        go_roundw
        case rel => exact ⟨i + 1, _, by go_num, by omega, HN6.out, HS6.out⟩
        case measure => simp [intOf]; omega
    · have hlt' : ¬ (i : Int) < (kR : Int) := by omega
      obtain rfl : i = kR := by omega
      have HRN : Hid (ResN p w (.returned (.pointer (some ⟨ct, 0, none⟩))) W2) := by
        refine ⟨cv, ct, Bb, Bz, Bh, Bk, _, BSf, rfl, hN, fun s hs => ?_⟩
        have h := hseg s hs
        rw [HKR.out, List.take_length, mem_rdl] at h
        exact ⟨fun hc => h.1 ⟨hs, hc⟩, fun hc => h.2 (fun hh => by omega)⟩
      clear hN hseg
      go_wp2
      go_ret
      exact HRN.out

theorem new_any (p : Ps) (w : World) (hk : Ok p) (hI : NIn p w) : Calls Ybgt.prog 6 #[.pointer (some ⟨p.xb, 0, none⟩)] w (ResN p w) :=
  new1 p w _ hk hI (new2 p w _ hk hI (stage3 p w hk hI))
end Go.Proofs.Yboneofkt
