/-
  newContents: the sizes and the marks.
-/
import Derived.Test.YboneofktNew1
namespace Go.Proofs.Yboneofkt
open Go.RowKit

structure N2 (p : Ps) (w : World) (cv ct Bb Bz Bh Bk : Nat) (rv : Value) (BSf : Nat → Value) (MKf : Nat → Int) (SZf : Nat → Nat) (lm : Int) (W : World) : Prop where
  kp : Kp [p.mb, p.xb] w W
  xr : Rw W p.xb 49 34 (fun j => if j = 16 then .int .i64 lm else p.F j)
  marks : Rw W p.mb 3 p.E (fun e => .int .i64 (MKf e))
  zs : Rw W Bz 21 p.m (fun g => .int .i32 (SZf g : Int))
  bs : Rw W Bb 24 p.S BSf
  hs : Rw W Bh 21 p.E (fun _ => .int .i32 0)
  ks : Rw W Bk 3 p.E (fun _ => .int .i64 0)
  rd : W.ownsRow w.heap.size 21 1 rv (rdl p.cn p.S).length (i32s (rdl p.cn p.S))
  cvb : W.heap[cv]? = some (.cells #[.pointer (some ⟨ct, 0, none⟩)] 50)
  ctb : W.heap[ct]? = some (.cells #[.pointer (some ⟨p.xb, 0, none⟩), rv, .slice (some ⟨Bb, 0, none⟩) p.S p.S, .slice (some ⟨Bz, 0, none⟩) p.m p.m, .slice (some ⟨Bh, 0, none⟩) p.E p.E, .slice (some ⟨Bk, 0, none⟩) p.E p.E] 54)
  ge : w.heap.size ≤ cv ∧ w.heap.size ≤ ct ∧ w.heap.size ≤ Bb ∧ w.heap.size ≤ Bz ∧ w.heap.size ≤ Bh ∧ w.heap.size ≤ Bk
  ne : Bz ≠ Bh ∧ rv.ownBlock ≠ some Bz

section
variable {p : Ps} {w : World} {cv ct Bb Bz Bh Bk : Nat} {rv : Value} {BSf : Nat → Value} {MKf : Nat → Int} {SZf : Nat → Nat} {lm : Int} {W W' : World}

theorem block_lt {w : World} {b : Nat} {o : Obj} (h : w.heap[b]? = some o) : b < w.heap.size := (Array.getElem?_eq_some_iff.1 h).1

theorem N2.frame (h : N2 p w cv ct Bb Bz Bh Bk rv BSf MKf SZf lm W) (hb : Below W.heap.size W W') : N2 p w cv ct Bb Bz Bh Bk rv BSf MKf SZf lm W' :=
  { kp := h.kp.below hb
    xr := h.xr.below hb h.xr.lt
    marks := h.marks.below hb h.marks.lt
    zs := h.zs.below hb h.zs.lt
    bs := h.bs.below hb h.bs.lt
    hs := h.hs.below hb h.hs.lt
    ks := h.ks.below hb h.ks.lt
    rd := own_below h.rd hb
    cvb := (hb.block _ (block_lt h.cvb)).trans h.cvb
    ctb := (hb.block _ (block_lt h.ctb)).trans h.ctb
    ge := h.ge
    ne := h.ne }

theorem own_setB {w : World} {base e n : Nat} {v : Value} {xs : List Value} (h : w.ownsRow base e 1 v n xs) {b' : Nat} (hne : v.ownBlock ≠ some b') (i : Nat) (u : Value) : (w.setCell ⟨b', i, none⟩ u).ownsRow base e 1 v n xs := by
  refine ⟨h.1, ?_⟩
  rcases h.2 with hn | ⟨g, cap, cur, h1, h2, h3, h4⟩
  · exact .inl hn
  · refine .inr ⟨g, cap, cur, h1, h2, (Below.heap_setCell w ⟨b', i, none⟩ u g ?_).trans h3, h4⟩
    rintro rfl
    exact hne (by rw [h1]; rfl)
theorem own_ge {w : World} {base e n : Nat} {v : Value} {xs : List Value} (h : w.ownsRow base e 1 v n xs) {b' : Nat} (hl : b' < base) : v.ownBlock ≠ some b' := fun e => Nat.lt_irrefl _ (Nat.lt_of_lt_of_le hl (h.lt _ e).1)

theorem N2.setLm (h : N2 p w cv ct Bb Bz Bh Bk rv BSf MKf SZf lm W) (hI : NIn p w) (v : Int) : N2 p w cv ct Bb Bz Bh Bk rv BSf MKf SZf v (W.setCell ⟨p.xb, 16, none⟩ (.int .i64 v)) := by
  have hx := hI.xr.lt
  obtain ⟨g1, g2, g3, g4, g5, g6⟩ := h.ge
  have hne := hI.nx.2.2.2.2.2
  exact { kp := h.kp.setCell (by simp) _
          xr := (h.xr.set 16 (.int .i64 v)).congr (fun i _ => by by_cases e : i = 16 <;> simp [e])
          marks := h.marks.setOther (Ne.symm hne) _
          zs := h.zs.setOther (by show Bz ≠ p.xb; omega) _
          bs := h.bs.setOther (by show Bb ≠ p.xb; omega) _
          hs := h.hs.setOther (by show Bh ≠ p.xb; omega) _
          ks := h.ks.setOther (by show Bk ≠ p.xb; omega) _
          rd := own_setB h.rd (own_ge h.rd hx) _ _
          cvb := (Below.heap_setCell W ⟨p.xb, 16, none⟩ _ cv (by show cv ≠ p.xb; omega)).trans h.cvb
          ctb := (Below.heap_setCell W ⟨p.xb, 16, none⟩ _ ct (by show ct ≠ p.xb; omega)).trans h.ctb
          ge := h.ge
          ne := h.ne }

theorem N2.setMk (h : N2 p w cv ct Bb Bz Bh Bk rv BSf MKf SZf lm W) (hI : NIn p w) (e : Nat) (v : Int) : N2 p w cv ct Bb Bz Bh Bk rv BSf (fun i => if i = e then v else MKf i) SZf lm (W.setCell ⟨p.mb, e, none⟩ (.int .i64 v)) := by
  have hx := hI.marks.lt
  obtain ⟨g1, g2, g3, g4, g5, g6⟩ := h.ge
  have hne := hI.nx.2.2.2.2.2
  exact { kp := h.kp.setCell (by simp) _
          xr := h.xr.setOther hne _
          marks := (h.marks.set e (.int .i64 v)).congr (fun i _ => by by_cases e' : i = e <;> simp [e'])
          zs := h.zs.setOther (by show Bz ≠ p.mb; omega) _
          bs := h.bs.setOther (by show Bb ≠ p.mb; omega) _
          hs := h.hs.setOther (by show Bh ≠ p.mb; omega) _
          ks := h.ks.setOther (by show Bk ≠ p.mb; omega) _
          rd := own_setB h.rd (own_ge h.rd hx) _ _
          cvb := (Below.heap_setCell W ⟨p.mb, e, none⟩ _ cv (by show cv ≠ p.mb; omega)).trans h.cvb
          ctb := (Below.heap_setCell W ⟨p.mb, e, none⟩ _ ct (by show ct ≠ p.mb; omega)).trans h.ctb
          ge := h.ge
          ne := h.ne }

theorem Kp.setNew {X : List Nat} {a w : World} (h : Kp X a w) {q : Addr} (hq : a.heap.size ≤ q.block) (u : Value) : Kp X a (w.setCell q u) :=
  ⟨h.os, h.tape, h.output, by simpa [World.setCell] using h.size, fun k hk hx => by rw [Below.heap_setCell w q u k (by omega)]; exact h.block k hk hx⟩

theorem N2.setSz (h : N2 p w cv ct Bb Bz Bh Bk rv BSf MKf SZf lm W) (hI : NIn p w) (g : Nat) (v : Nat) : N2 p w cv ct Bb Bz Bh Bk rv BSf MKf (fun i => if i = g then v else SZf i) lm (W.setCell ⟨Bz, g, none⟩ (.int .i32 (v : Int))) := by
  have hx := hI.marks.lt
  have hx2 := hI.xr.lt
  obtain ⟨g1, g2, g3, g4, g5, g6⟩ := h.ge
  exact { kp := h.kp.setNew g4 _
          xr := h.xr.setOther (by show p.xb ≠ Bz; omega) _
          marks := h.marks.setOther (by show p.mb ≠ Bz; omega) _
          zs := (h.zs.set g (.int .i32 (v : Int))).congr (fun i _ => by by_cases e' : i = g <;> simp [e'])
          bs := h.bs.setOther (h.bs.ne h.zs (by decide)) _
          hs := h.hs.setOther (Ne.symm h.ne.1) _
          ks := h.ks.setOther (h.ks.ne h.zs (by decide)) _
          rd := own_setB h.rd h.ne.2 _ _
          cvb := (Below.heap_setCell W ⟨Bz, g, none⟩ _ cv (Ne.symm (h.zs.ne_block h.cvb (by decide)))).trans h.cvb
          ctb := (Below.heap_setCell W ⟨Bz, g, none⟩ _ ct (Ne.symm (h.zs.ne_block h.ctb (by decide)))).trans h.ctb
          ge := h.ge
          ne := h.ne }

theorem N2.congr (h : N2 p w cv ct Bb Bz Bh Bk rv BSf MKf SZf lm W) {MKg : Nat → Int} {SZg : Nat → Nat} {lm' : Int} (h1 : ∀ e, e < p.E → MKf e = MKg e) (h2 : ∀ g, g < p.m → SZf g = SZg g) (h3 : lm = lm') : N2 p w cv ct Bb Bz Bh Bk rv BSf MKg SZg lm' W := by
  subst h3
  exact { h with
    marks := h.marks.congr (fun i hi => by rw [h1 i hi])
    zs := h.zs.congr (fun i hi => by rw [h2 i hi]) }

theorem N2.first {v3 : Value} (hI : NIn p w) (hA : AfterR1 w p.cn p.S p.m p.E p.xb v3 W) : ∃ cv ct Bb Bz Bh Bk rv, v3 = .pointer (some ⟨cv, 0, none⟩) ∧ N2 p w cv ct Bb Bz Bh Bk rv (fun _ => .slice none 0 0) p.mks (fun _ => 0) p.L W := by
  obtain ⟨v0, v1, v2, v3', v4, cv, ct, hR, rfl, hcv, hct, hcvb, hctb⟩ := hA
  obtain ⟨Bb, rfl, hb1, hb2⟩ := hR.g1 rfl
  obtain ⟨Bz, rfl, hz1, hz2⟩ := hR.g2 rfl
  obtain ⟨Bh, rfl, hh1, hh2⟩ := hR.g3 rfl
  obtain ⟨Bk, rfl, hk1, hk2⟩ := hR.g4 rfl
  have hx := hI.xr.below hR.bel hI.xr.lt
  refine ⟨cv, ct, Bb, Bz, Bh, Bk, v0, rfl, ?_⟩
  exact { kp := (Kp.refl _ w).below hR.bel
          xr := hx.congr (fun i _ => by by_cases e : i = 16 <;> simp [e, hI.F16])
          marks := hI.marks.below hR.bel hI.marks.lt
          zs := hz2
          bs := hb2
          hs := hh2
          ks := hk2
          rd := hR.g0 rfl
          cvb := hcvb
          ctb := hctb
          ge := ⟨hcv, hct, hb1, hz1, hh1, hk1⟩
          ne := ⟨fun e => hR.a23 rfl rfl (by simp [Value.ownBlock, e]), fun e => hR.a02 rfl rfl _ e rfl⟩ }

/-- an old cell, elsewhere than in the marks and the index. -/
theorem N2.old (h : N2 p w cv ct Bb Bz Bh Bk rv BSf MKf SZf lm W) {b i : Nat} {v : Value} (hl : b < w.heap.size) (h1 : p.mb ≠ b) (h2 : p.xb ≠ b) (hc : w.cell? ⟨b, i, none⟩ = some v) : W.cell? ⟨b, i, none⟩ = some v := by
  rw [← hc]
  exact World.cell?_of_block (w := w) (h.kp.block b hl (by simp; exact ⟨Ne.symm h1, Ne.symm h2⟩))
theorem N2.x0 (h : N2 p w cv ct Bb Bz Bh Bk rv BSf MKf SZf lm W) (hI : NIn p w) : W.cell? ⟨p.xb, 0, none⟩ = some (.pointer (some ⟨p.lb, 0, none⟩)) := by rw [h.xr.cell (by omega)]; simp [hI.F0]
theorem N2.x1 (h : N2 p w cv ct Bb Bz Bh Bk rv BSf MKf SZf lm W) (hI : NIn p w) : W.cell? ⟨p.xb, 1, none⟩ = some (.slice (some ⟨p.sb, 0, none⟩) p.S p.S) := by rw [h.xr.cell (by omega)]; simp [hI.F1]
theorem N2.x9 (h : N2 p w cv ct Bb Bz Bh Bk rv BSf MKf SZf lm W) (hI : NIn p w) : W.cell? ⟨p.xb, 9, none⟩ = some (.slice (some ⟨p.ob, 0, none⟩) p.m p.capo) := by rw [h.xr.cell (by omega)]; simp [hI.F9]
theorem N2.x15 (h : N2 p w cv ct Bb Bz Bh Bk rv BSf MKf SZf lm W) (hI : NIn p w) : W.cell? ⟨p.xb, 15, none⟩ = some (.slice (some ⟨p.mb, 0, none⟩) p.E p.E) := by rw [h.xr.cell (by omega)]; simp [hI.F15]
theorem N2.x16 (h : N2 p w cv ct Bb Bz Bh Bk rv BSf MKf SZf lm W) : W.cell? ⟨p.xb, 16, none⟩ = some (.int .i64 lm) := by rw [h.xr.cell (by omega)]; simp
theorem cell_of {w : World} {b : Nat} {cs : Array Value} {ty : TypeId} (h : w.heap[b]? = some (.cells cs ty)) (i : Nat) : w.cell? ⟨b, i, none⟩ = cs[i]? := by simp [World.cell?, h]
end

theorem seq_var {P : Program} {A B : Code} {Q : Exit → Act → World → Prop} {a : Act} {w : World} (h : ∀ K : Act → World → Prop, (∀ a w, B.wp P Q a w → K a w) → A.wp P (Exit.then K Q) a w) : (A.seq B).wp P Q a w := wp_seq (h _ (fun _ _ h => h))

/-- what the rest of newContents is asked. -/
def AtN14 (p : Ps) (w : World) (R : Ending → World → Prop) : Prop :=
  ∀ (cv ct Bb Bz Bh Bk : Nat) (rv : Value) (W : World), N2 p w cv ct Bb Bz Bh Bk rv (fun _ => .slice none 0 0) (MK p.L p.rs p.st p.ln p.mks p.m) p.sz (p.L + p.m) W → ∀ (u1 u4 u5 u6 u7 u8 u9 u10 u11 u12 u13 u14 u15 u16 u17 u18 u19 u20 u21 u22 u23 u24 u25 u26 u27 u28 u29 u30 u31 u32 u33 u34 u35 u36 u37 u38 u39 u40 u41 u42 u43 u44 u45 u46 u47 u48 u49 u50 u51 u52 u53 u54 u55 u56 u57 u58 u59 u60 u61 u62 u63 u64 u65 u66 u67 u68 u69 u70 u71 u72 u73 u74 u75 u76 u77 u78 u79 u80 u81 u82 u83 u84 u85 u86 u87 u88 u89 u90 u91 u92 u93 u94 u95 u96 u97 u98 u99 u100 u101 u102 u103 u104 u105 u106 u107 u108 u109 u110 u111 u112 u113 u114 u115 u116 u117 u118 u119 u120 u121 u122 u123 u124 u125 u126 u127 u128 u129 u130 u131 u132 u133 u134 u135 u136 u137 u138 u139 u140 u141 u142 u143 u144 u145 u146 : Value),
    Code.wp Ybgt.prog ((Ybgt.f6.body.bind (fromR 14)).getD .skip) (bodyPost Ybgt.prog Ybgt.f6 R) ⟨#[.pointer (some ⟨p.xb, 0, none⟩), u1, .pointer none, .pointer (some ⟨cv, 0, none⟩), u4, u5, u6, u7, u8, u9, u10, u11, u12, u13, u14, u15, u16, u17, u18, u19, u20, u21, u22, u23, u24, u25, u26, u27, u28, u29, u30, u31, u32, u33, u34, u35, u36, u37, u38, u39, u40, u41, u42, u43, u44, u45, u46, u47, u48, u49, u50, u51, u52, u53, u54, u55, u56, u57, u58, u59, u60, u61, u62, u63, u64, u65, u66, u67, u68, u69, u70, u71, u72, u73, u74, u75, u76, u77, u78, u79, u80, u81, u82, u83, u84, u85, u86, u87, u88, u89, u90, u91, u92, u93, u94, u95, u96, u97, u98, u99, u100, u101, u102, u103, u104, u105, u106, u107, u108, u109, u110, u111, u112, u113, u114, u115, u116, u117, u118, u119, u120, u121, u122, u123, u124, u125, u126, u127, u128, u129, u130, u131, u132, u133, u134, u135, u136, u137, u138, u139, u140, u141, u142, u143, u144, u145, u146], []⟩ W

set_option maxHeartbeats 8000000 in
set_option maxRecDepth 100000 in
set_option linter.unusedSimpArgs false in
theorem stage2 (p : Ps) (w : World) (R : Ending → World → Prop) (hk : Ok p) (hI : NIn p w) (HNEXT : AtN14 p w R) (cv ct Bb Bz Bh Bk : Nat) (rv : Value) (W : World) (hN : N2 p w cv ct Bb Bz Bh Bk rv (fun _ => .slice none 0 0) p.mks (fun _ => 0) p.L W) (u1 u4 u5 u6 u7 u8 u9 u10 u11 u12 u13 u14 u15 u16 u17 u18 u19 u20 u21 u22 u23 u24 u25 u26 u27 u28 u29 u30 u31 u32 u33 u34 u35 u36 u37 u38 u39 u40 u41 u42 u43 u44 u45 u46 u47 u48 u49 u50 u51 u52 u53 u54 u55 u56 u57 u58 u59 u60 u61 u62 u63 u64 u65 u66 u67 u68 u69 u70 u71 u72 u73 u74 u75 u76 u77 u78 u79 u80 u81 u82 u83 u84 u85 u86 u87 u88 u89 u90 u91 u92 u93 u94 u95 u96 u97 u98 u99 u100 u101 u102 u103 u104 u105 u106 u107 u108 u109 u110 u111 u112 u113 u114 u115 u116 u117 u118 u119 u120 u121 u122 u123 u124 u125 u126 u127 u128 u129 u130 u131 u132 u133 u134 u135 u136 u137 u138 u139 u140 u141 u142 u143 u144 u145 u146 : Value) :
    Code.wp Ybgt.prog ((Ybgt.f6.body.bind (fromR 2)).getD .skip) (bodyPost Ybgt.prog Ybgt.f6 R) ⟨#[.pointer (some ⟨p.xb, 0, none⟩), u1, .pointer none, .pointer (some ⟨cv, 0, none⟩), u4, u5, u6, u7, u8, u9, u10, u11, u12, u13, u14, u15, u16, u17, u18, u19, u20, u21, u22, u23, u24, u25, u26, u27, u28, u29, u30, u31, u32, u33, u34, u35, u36, u37, u38, u39, u40, u41, u42, u43, u44, u45, u46, u47, u48, u49, u50, u51, u52, u53, u54, u55, u56, u57, u58, u59, u60, u61, u62, u63, u64, u65, u66, u67, u68, u69, u70, u71, u72, u73, u74, u75, u76, u77, u78, u79, u80, u81, u82, u83, u84, u85, u86, u87, u88, u89, u90, u91, u92, u93, u94, u95, u96, u97, u98, u99, u100, u101, u102, u103, u104, u105, u106, u107, u108, u109, u110, u111, u112, u113, u114, u115, u116, u117, u118, u119, u120, u121, u122, u123, u124, u125, u126, u127, u128, u129, u130, u131, u132, u133, u134, u135, u136, u137, u138, u139, u140, u141, u142, u143, u144, u145, u146], []⟩ W := by
  have HI : Hid (NIn p w) := hI
  have HK : Hid (Ok p) := hk
  have hm := hk.m
  have hn := hk.n
  have hE := hk.E
  have hL1 := hk.L1
  have hL2 := hk.L2
  have HX : Hid (AtN14 p w R) := HNEXT
  have HN : Hid (N2 p w cv ct Bb Bz Bh Bk rv (fun _ => .slice none 0 0) p.mks (fun _ => 0) p.L W) := hN
  have x0 := hN.x0 hI
  have x4 := hN.old hI.lts.1 hI.nm.1 hI.nx.1 hI.l4
  clear hk hN HNEXT
  conv => arg 2; whnf
  conv => arg 4; dsimp only
  refine seq_var (fun K hK => ?_)
  have HKK : Hid _ := hK
  clear hK
  go_wp2
  clear x0 x4
  go_loopw [52] (fun v52 wr => ∃ k : Nat, v52 = .int .i64 (k : Int) ∧ k ≤ p.m ∧ N2 p w cv ct Bb Bz Bh Bk rv (fun _ => .slice none 0 0) (MK p.L p.rs p.st p.ln p.mks k) (SZp p.rs p.st p.ln k 0) (p.L + k) wr) (fun v52 _ => p.m - (intOf v52).toNat)
  case atStart => exact ⟨0, rfl, Nat.zero_le _, HN.out.congr (fun _ _ => rfl) (fun g _ => by unfold SZp; simp [dcn]) (by simp)⟩
  case round =>
    rename World => W2
    obtain ⟨k, rfl, hkm, hN⟩ := hrel
    by_cases hlt : k < p.m
    · have hlt' : (k : Int) < (p.m : Int) := by omega
      obtain ⟨ln, hln⟩ : ∃ ln, ln = p.ln k := ⟨_, rfl⟩
      obtain ⟨st, hst⟩ : ∃ st, st = p.st k := ⟨_, rfl⟩
      obtain ⟨en, hen⟩ : ∃ en, en = p.en k := ⟨_, rfl⟩
      have h1 := HK.out.st k hlt
      have h2 := HK.out.en k hlt
      rw [← hst, ← hen] at h1
      rw [← hen] at h2
      have hle : ln = en - st := by rw [hln, hst, hen]; rfl
      have c16 := hN.x16
      have f16 := hN.xr.frozen 16
      have hN3 := hN.setLm hI (p.L + k + 1)
      have HN3 : Hid (N2 p w cv ct Bb Bz Bh Bk rv (fun _ => .slice none 0 0) (MK p.L p.rs p.st p.ln p.mks k) (SZp p.rs p.st p.ln k 0) (p.L + k + 1) (W2.setCell ⟨p.xb, 16, none⟩ (.int .i64 (p.L + k + 1)))) := hN3
      have HM : Hid (Calls Ybgt.prog 10 #[.pointer (some ⟨p.xb, 0, none⟩)] W2 fun e w' => e = .returned (.int .i64 (p.L + k + 1)) ∧ w' = W2.setCell ⟨p.xb, 16, none⟩ (.int .i64 (p.L + k + 1))) := mark10 p.xb (p.L + k) W2 (by omega) (by omega) c16 f16
      have HR : Hid (Calls Ybgt.prog 11 #[.pointer (some ⟨p.xb, 0, none⟩), .int .i32 (k : Int)] (W2.setCell ⟨p.xb, 16, none⟩ (.int .i64 (p.L + k + 1))) (Res11 p.rb st en p.n (W2.setCell ⟨p.xb, 16, none⟩ (.int .i64 (p.L + k + 1))))) := by
        have a3 := hN3.old hI.lts.2.1 hI.nm.2.1 hI.nx.2.1 (hI.gst k hlt)
        have a4 := hN3.old hI.lts.2.1 hI.nm.2.1 hI.nx.2.1 (hI.gen k hlt)
        rw [← hst] at a3
        rw [← hen] at a4
        exact result11 p.xb p.lb p.gb p.rb k p.m p.m p.n p.n st en _ hlt h1 h2 (Nat.le_refl _) (hN3.x0 hI) (hN3.old hI.lts.1 hI.nm.1 hI.nx.1 hI.l4) (hN3.old hI.lts.1 hI.nm.1 hI.nx.1 hI.l5) a3 a4
      have HE : Hid (ln = p.ln k ∧ st = p.st k ∧ en = p.en k) := ⟨hln, hst, hen⟩
      clear hN hN3 c16 f16 hln hst hen hI
      go_wp2_with (first | (go_at_call 10; refine HM.out.mono ?_; rintro e w' ⟨rfl, rfl⟩) | (go_at_call 11; refine HR.out.mono ?_; rintro e w' ⟨off, q, hoff, rfl, rfl⟩))
      clear HM HR
      go_loopw [62] (fun v62 wr => ∃ j : Nat, v62 = .int .i64 (j : Int) ∧ j ≤ ln ∧ N2 p w cv ct Bb Bz Bh Bk rv (fun _ => .slice none 0 0) (MKp p.L p.rs p.st p.ln p.mks k j) (SZp p.rs p.st p.ln k j) (p.L + k + 1) wr) (fun v62 _ => ln - (intOf v62).toNat)
      case atStart => exact ⟨0, rfl, Nat.zero_le _, (HN3.out.congr (fun e _ => by rw [MKp_zero]) (fun _ _ => rfl) rfl).frame (below_drewN (Below.refl _ _) _)⟩
      case round =>
        rename World => W4
        obtain ⟨j, rfl, hjl, hN⟩ := hrel
        clear HN3
        by_cases hjlt : j < ln
        · have hjlt' : (j : Int) < ((en - st : Nat) : Int) := by omega
          obtain rfl : off = st := by rcases hoff with h | h; exact h; omega
          obtain ⟨e, he⟩ : ∃ e, e = p.rs (off + j) := ⟨_, rfl⟩
          have hres := hN.old HI.out.lts.2.2.1 HI.out.nm.2.2.1 HI.out.nx.2.2.1 (HI.out.res (off + j) (by omega))
          rw [← he] at hres
          have heE : e < p.E := by rw [he]; exact HK.out.rs _ (by omega)
          have x15 := hN.x15 HI.out
          obtain ⟨mv, hmv⟩ : ∃ mv, mv = MKp p.L p.rs p.st p.ln p.mks k j e := ⟨_, rfl⟩
          have cm := hN.marks.cell heE
          rw [← hmv] at cm
          have fm := hN.marks.frozen e
          have b1 := MKp_le (f := p.rs) (st := p.st) (ln := p.ln) HK.out.mk2 k j e heE
          have b2 := MKp_ge (f := p.rs) (st := p.st) (ln := p.ln) hL1 HK.out.mk1 k j e heE
          rw [← hmv] at b1 b2
          have hiff := MKp_eq (f := p.rs) (st := p.st) (ln := p.ln) HK.out.mk2 k j e heE
          rw [← hmv, ← HE.out.2.1] at hiff
          by_cases hin : inP p.rs off j e = true
          · have hmm : mv = p.L + k + 1 := by have := hiff.2 hin; omega
            have HN5 : Hid (N2 p w cv ct Bb Bz Bh Bk rv (fun _ => .slice none 0 0) (MKp p.L p.rs p.st p.ln p.mks k (j + 1)) (SZp p.rs p.st p.ln k (j + 1)) (p.L + k + 1) W4) := by
              refine hN.congr (fun _ _ => ?_) (fun g _ => ?_) rfl
              · rw [MKp_same (by rw [← HE.out.2.1, ← he]; exact hin)]
              · unfold SZp
                by_cases hg : g = k
                · subst hg
                  simp only [Nat.lt_irrefl, if_false, if_true]
                  rw [dcn_succ, if_pos (by rw [← HE.out.2.1, ← he]; exact hin)]
                · simp [hg]
            clear hN hiff hmv he
            go_wp2
            go_roundw
            case rel => exact ⟨j + 1, by go_num, by omega, HN5.out⟩
            case measure => simp [intOf]; omega
          · have hmm : ¬ mv = p.L + k + 1 := by
              intro hh
              exact hin (hiff.1 (by omega))
            have hN5 := hN.setMk HI.out e (p.L + k + 1)
            have z0 : (W4.setCell ⟨p.mb, e, none⟩ (.int .i64 (p.L + k + 1))).cell? ⟨cv, 0, none⟩ = some (.pointer (some ⟨ct, 0, none⟩)) := by rw [cell_of hN5.cvb]; rfl
            have z3 : (W4.setCell ⟨p.mb, e, none⟩ (.int .i64 (p.L + k + 1))).cell? ⟨ct, 3, none⟩ = some (.slice (some ⟨Bz, 0, none⟩) p.m p.m) := by rw [cell_of hN5.ctb]; rfl
            obtain ⟨sz, hsz⟩ : ∃ sz, sz = SZp p.rs p.st p.ln k j k := ⟨_, rfl⟩
            have zc := hN5.zs.cell hlt
            rw [← hsz] at zc
            have zf := hN5.zs.frozen k
            have hsl : sz ≤ j := by rw [hsz]; unfold SZp; simp; exact dcn_le _ _ _
            have hN6 := hN5.setSz HI.out k (sz + 1)
            have HN6 : Hid (N2 p w cv ct Bb Bz Bh Bk rv (fun _ => .slice none 0 0) (MKp p.L p.rs p.st p.ln p.mks k (j + 1)) (SZp p.rs p.st p.ln k (j + 1)) (p.L + k + 1) ((W4.setCell ⟨p.mb, e, none⟩ (.int .i64 (p.L + k + 1))).setCell ⟨Bz, k, none⟩ (.int .i32 ((sz : Int) + 1)))) := by
              refine hN6.congr (fun i _ => ?_) (fun g _ => ?_) rfl
              · rw [MKp_new i, ← HE.out.2.1, ← he]
                by_cases hie : i = e
                · rw [if_pos hie, if_pos hie]; omega
                · rw [if_neg hie, if_neg hie]
              · by_cases hg : g = k
                · subst hg
                  rw [if_pos rfl, hsz]
                  unfold SZp
                  simp only [Nat.lt_irrefl, if_false, if_true]
                  rw [dcn_succ, if_neg (by rw [← HE.out.2.1, ← he]; exact hin)]
                · rw [if_neg hg]
                  unfold SZp
                  simp [hg]
            have hjs : j < 65536 := by omega
            clear hN hN5 hN6 hiff hmv he hsz
            go_wp2
            go_roundw
            case rel => exact ⟨j + 1, by go_num, by omega, HN6.out⟩
            case measure => simp [intOf]; omega
        · have hjlt' : ¬ (j : Int) < ((en - st : Nat) : Int) := by omega
          obtain rfl : j = ln := by omega
          have HN5 : Hid (N2 p w cv ct Bb Bz Bh Bk rv (fun _ => .slice none 0 0) (MK p.L p.rs p.st p.ln p.mks (k + 1)) (SZp p.rs p.st p.ln (k + 1) 0) (p.L + ((k + 1 : Nat) : Int)) W4) := by
            refine hN.congr (fun e _ => ?_) (fun g _ => ?_) (by omega)
            · rw [HE.out.1, MKp_full]
            · unfold SZp
              rw [HE.out.1]
              by_cases hg : g < k
              · rw [if_pos hg, if_pos (by omega)]
              · by_cases hg2 : g = k
                · subst hg2
                  rw [if_neg (Nat.lt_irrefl _), if_pos rfl, if_pos (by omega)]
                · rw [if_neg hg, if_neg hg2, if_neg (by omega)]
                  by_cases hg3 : g = k + 1
                  · rw [if_pos hg3]; rfl
                  · rw [if_neg hg3]
          clear hN
          go_wp2
          go_roundw
          case rel => exact ⟨k + 1, by go_num, by omega, HN5.out⟩
          case measure => simp [intOf]; omega
    · have hlt' : ¬ (k : Int) < (p.m : Int) := by omega
      obtain rfl : k = p.m := by omega
      have HN5 : Hid (N2 p w cv ct Bb Bz Bh Bk rv (fun _ => .slice none 0 0) (MK p.L p.rs p.st p.ln p.mks p.m) p.sz (p.L + p.m) W2) := hN.congr (fun _ _ => rfl) (fun g hg => by unfold SZp Ps.sz; rw [if_pos hg]) rfl
      clear hN
      go_wp2
      refine HKK.out _ _ ?_
      have hx := HX.out
      unfold AtN14 at hx
      apply hx _ _ _ _ _ _ _ _ HN5.out

theorem new2 (p : Ps) (w : World) (R : Ending → World → Prop) (hk : Ok p) (hI : NIn p w) (HNEXT : AtN14 p w R) : AtN2 p w R := by
  unfold AtN2
  intro v3 W hA
  obtain ⟨cv, ct, Bb, Bz, Bh, Bk, rv, rfl, hN⟩ := N2.first hI hA
  exact stage2 p w R hk hI HNEXT cv ct Bb Bz Bh Bk rv W hN
end Go.Proofs.Yboneofkt
