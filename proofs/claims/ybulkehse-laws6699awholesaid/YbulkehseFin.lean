/-
  Hold at a session in one block, the jitter source in the block before it.
-/
import Derived.Test.YbulkehseOne
namespace Go.Proofs.Ybulkehse
open Go.RowKit

/-- the source's first answer. -/
def rndv (n : Nat) (z : Nat → Int) : Int := if n = 0 then 0 else z 0

/-- the world: the source, the session, two more blocks. -/
def wrld (w1 : World) (jc ss : Array Value) (o3 o4 : Obj) : World := (((w1.alloc (.cells jc 30)).alloc (.cells ss 41)).alloc o3).alloc o4

theorem wrld_set1 (w1 : World) (jc ss : Array Value) (o3 o4 : Obj) (i : Nat) (v : Value) : (wrld w1 jc ss o3 o4).setCell ⟨w1.heap.size + 1, i, none⟩ v = wrld w1 jc (ss.setIfInBounds i v) o3 o4 := by
  unfold wrld
  rw [World.setCell_alloc_past (hn := by simp <;> omega), World.setCell_alloc_past (hn := by simp), World.setCell_alloc_at (hn := by simp)]
theorem wrld_set0 (w1 : World) (jc ss : Array Value) (o3 o4 : Obj) (i : Nat) (v : Value) : (wrld w1 jc ss o3 o4).setCell ⟨w1.heap.size, i, none⟩ v = wrld w1 (jc.setIfInBounds i v) ss o3 o4 := by
  unfold wrld
  rw [World.setCell_alloc_past (hn := by simp <;> omega), World.setCell_alloc_past (hn := by simp <;> omega), World.setCell_alloc_past (hn := by simp), World.setCell_alloc_at (hn := rfl)]
theorem wrld_cell1 (w1 : World) (jc ss : Array Value) (o3 o4 : Obj) (i : Nat) : (wrld w1 jc ss o3 o4).cell? ⟨w1.heap.size + 1, i, none⟩ = ss[i]? := by
  unfold wrld
  rw [World.cell?_alloc_past (hn := by simp <;> omega), World.cell?_alloc_past (hn := by simp), World.cell?_alloc_at (hn := by simp)]
theorem wrld_cell0 (w1 : World) (jc ss : Array Value) (o3 o4 : Obj) (i : Nat) : (wrld w1 jc ss o3 o4).cell? ⟨w1.heap.size, i, none⟩ = jc[i]? := by
  unfold wrld
  rw [World.cell?_alloc_past (hn := by simp <;> omega), World.cell?_alloc_past (hn := by simp <;> omega), World.cell?_alloc_past (hn := by simp), World.cell?_alloc_at (hn := rfl)]
theorem wrld_fz1 (w1 : World) (jc ss : Array Value) (o3 o4 : Obj) (i : Nat) : (wrld w1 jc ss o3 o4).frozen? ⟨w1.heap.size + 1, i, none⟩ = false := by
  unfold wrld
  rw [World.frozen?_alloc_past (hn := by simp <;> omega), World.frozen?_alloc_past (hn := by simp), World.frozen?_alloc_at (hn := by simp)]
theorem wrld_fz0 (w1 : World) (jc ss : Array Value) (o3 o4 : Obj) (i : Nat) : (wrld w1 jc ss o3 o4).frozen? ⟨w1.heap.size, i, none⟩ = false := by
  unfold wrld
  rw [World.frozen?_alloc_past (hn := by simp <;> omega), World.frozen?_alloc_past (hn := by simp <;> omega), World.frozen?_alloc_past (hn := by simp), World.frozen?_alloc_at (hn := rfl)]
theorem wrld_old (w1 : World) (jc ss : Array Value) (o3 o4 : Obj) (b i : Nat) (h : b < w1.heap.size) : (wrld w1 jc ss o3 o4).cell? ⟨b, i, none⟩ = w1.cell? ⟨b, i, none⟩ := by
  unfold wrld
  rw [World.cell?_alloc_past (hn := by simp <;> omega), past3 _ _ _ _ _ _ h]
theorem wrld_size (w1 : World) (jc ss : Array Value) (o3 o4 : Obj) : (wrld w1 jc ss o3 o4).heap.size = w1.heap.size + 1 + 1 + 1 + 1 := by simp [wrld]

theorem sess_of {ss : Array Value} {w1 : World} {md cT cR : Int} {slow : Bool} {dm role : Int} {jb : Nat} {lat st dg d rr : Int} {pol ad : Bool} {dmr rd rs r : Int} {hl dt : Bool} {da last next : Int} (h : SS ss md cT cR slow dm role jb lat st dg d rr pol ad dmr rd rs r hl dt da last next) (jc : Array Value) (o3 o4 : Obj) :
    Sess (wrld w1 jc ss o3 o4) (w1.heap.size + 1) cT cR slow dm lat st d pol rd rs r last next jb where
  fz := fun _ => wrld_fz1 _ _ _ _ _ _
  c1 := (wrld_cell1 _ _ _ _ _ _).trans h.s1
  c2 := (wrld_cell1 _ _ _ _ _ _).trans h.s2
  c3 := (wrld_cell1 _ _ _ _ _ _).trans h.s3
  c4 := (wrld_cell1 _ _ _ _ _ _).trans h.s4
  c6 := (wrld_cell1 _ _ _ _ _ _).trans h.s6
  c7 := (wrld_cell1 _ _ _ _ _ _).trans h.s7
  c8 := (wrld_cell1 _ _ _ _ _ _).trans h.s8
  x9 := ⟨_, (wrld_cell1 _ _ _ _ _ _).trans h.s9⟩
  c10 := (wrld_cell1 _ _ _ _ _ _).trans h.s10
  x11 := ⟨_, (wrld_cell1 _ _ _ _ _ _).trans h.s11⟩
  c12 := (wrld_cell1 _ _ _ _ _ _).trans h.s12
  x14 := ⟨_, (wrld_cell1 _ _ _ _ _ _).trans h.s14⟩
  c15 := (wrld_cell1 _ _ _ _ _ _).trans h.s15
  c16 := (wrld_cell1 _ _ _ _ _ _).trans h.s16
  c17 := (wrld_cell1 _ _ _ _ _ _).trans h.s17
  x18 := ⟨_, (wrld_cell1 _ _ _ _ _ _).trans h.s18⟩
  c21 := (wrld_cell1 _ _ _ _ _ _).trans h.s21
  c22 := (wrld_cell1 _ _ _ _ _ _).trans h.s22

/-- the cells behind the pacing. -/
def hcells (ss : Array Value) (diag T X : Int) : Array Value :=
  ((((((ss.setIfInBounds 18 (.bool true)).setIfInBounds 9 (.int .u8 diag)).setIfInBounds 8 (.int .u8 1)).setIfInBounds 12 (.bool false)).setIfInBounds 14 (.int .i64 X)).setIfInBounds 10 (.int .i64 T)).setIfInBounds 11 (.int .i64 X)

theorem held_wrld (w1 : World) (jc ss : Array Value) (o3 o4 : Obj) (diag T X : Int) : held (wrld w1 jc ss o3 o4) (w1.heap.size + 1) diag T X = wrld w1 jc (hcells ss diag T X) o3 o4 := by
  unfold held
  rw [wrld_set1, wrld_set1, wrld_set1, wrld_set1, wrld_set1, wrld_set1, wrld_set1]
  rfl

theorem jit_of (w1 : World) (ja : Option Addr) (n c : Nat) (z : Nat → Int) (ss : Array Value) (o3 o4 : Obj) (hn : n ≤ 1048576) (hJ : Jv w1 ja n z) :
    JitOk (w1.heap.size + 1) (wrld w1 #[.slice ja n c, .int .i64 0] ss o3 o4) w1.heap.size (rndv n z) := by
  refine ⟨by rw [wrld_cell0]; rfl, wrld_fz0 _ _ _ _ _ _, ?_⟩
  rcases hJ with rfl | ⟨h1, b, off, rfl, hb, hc⟩
  · exact Or.inl ⟨ja, c, by rw [wrld_cell0]; rfl, rfl⟩
  · refine Or.inr ⟨b, off, n, c, h1, hn, by omega, by rw [wrld_cell0]; rfl, ?_⟩
    rw [wrld_old _ _ _ _ _ _ _ hb]
    have := hc 0 (by omega)
    rw [Nat.add_zero] at this
    rw [this, rndv, if_neg (by omega)]

/-- what Hold leaves, in one of three ways. -/
def Way (r bg T now next last dm lat rnd nx k : Int) : Prop :=
  (r = 0 ∧ nx = now ∧ k = 0) ∨ (r ≠ 0 ∧ bg ≠ 0 ∧ ¬ txv T r < bg ∧ nx = next ∧ k = 0) ∨
  (r ≠ 0 ∧ (bg = 0 ∨ txv T r < bg) ∧ nx = nextv now next last (gapd (txv T r) dm lat rnd) ∧ k = 1)

set_option maxHeartbeats 1000000 in
theorem hold_fin {ss F : Array Value} {w1 : World} {md cT cR : Int} {slow : Bool} {dm role lat st dg d rr : Int} {pol ad : Bool} {dmr rd rs r : Int} {hl dt : Bool} {da last next : Int} (h : SS ss md cT cR slow dm role w1.heap.size lat st dg d rr pol ad dmr rd rs r hl dt da last next)
    (ja : Option Addr) (n c : Nat) (z : Nat → Int) (o3 o4 : Obj) (now diag nx k : Int) (hs0 : st ≠ 0) (hs1 : st ≠ 1) (hn : n ≤ 1048576) (hJ : Jv w1 ja n z)
    (hcT : cT ≤ 9223372036854775807) (hr2 : r ≤ 9223372036854775807) (h3 : -9223372036854775808 ≤ lat) (h4 : lat ≤ 9223372036854775807) (h5 : 0 ≤ rndv n z) (h6 : rndv n z ≤ 18446744073709551615)
    (hF : SS F md cT cR slow dm role w1.heap.size lat 1 diag (slowv cT) (rxv slow cR) false ad (rxv slow cR) rd rs r true dt da last nx)
    (hw : Way r (gapv st pol d r rs) (slowv cT) now next last dm lat (rndv n z) nx k) :
    Calls Yba.prog 8 #[.pointer (some ⟨w1.heap.size + 1, 0, none⟩), .int .i64 now, .int .u8 diag] (wrld w1 #[.slice ja n c, .int .i64 0] ss o3 o4) fun e w' =>
      e = .returned (.pointer (some ⟨w1.heap.size + 1 + 1 + 1 + 1, 0, none⟩)) ∧ ∃ q, w' = ((wrld w1 #[.slice ja n c, .int .i64 k] F o3 o4).alloc (.cells #[.int .u8 st, .int .u8 1, .int .u8 diag, .int .u32 rd, .pointer none] 48)).drewN q := by
  have hse := sess_of (w1 := w1) h #[.slice ja n c, .int .i64 0] o3 o4
  have hT := slowv_bd cT
  have hT2 : slowv cT ≤ 9223372036854775807 := by unfold slowv; split <;> omega
  have hh : SS (hcells ss diag (slowv cT) (rxv slow cR)) md cT cR slow dm role w1.heap.size lat 1 diag (slowv cT) (rxv slow cR) false ad (rxv slow cR) rd rs r true dt da last next :=
    ((((((h.set18 true).set9 diag).set8 1).set12 false).set14 (rxv slow cR)).set10 (slowv cT)).set11 (rxv slow cR)
  have hpa := fun q => held_paced hse diag (slowv cT) (rxv slow cR) q
  have hji := jit_of w1 ja n c z (hcells ss diag (slowv cT) (rxv slow cR)) o3 o4 hn hJ
  have key := hold_other hse now diag hs0 hs1 (wrld w1 #[.slice ja n c, .int .i64 k] F o3 o4)
  rw [wrld_size] at key
  refine key ?_ ((wrld_cell1 _ _ _ _ _ _).trans hF.s15)
  clear key
  simp only [held_wrld] at hpa ⊢
  intro q
  rcases hw with ⟨rfl, rfl, rfl⟩ | ⟨hr, hb, hlt, rfl, rfl⟩ | ⟨hr, hlt, rfl, rfl⟩
  · refine (retime_zero (w1.heap.size + 1) w1.heap.size (slowv cT) rs dm lat last next nx _ _ (hpa q)).mono ?_
    rintro e w' ⟨rfl, q', rfl⟩
    refine ⟨rfl, q + q', ?_⟩
    rw [sd, wrld_set1, World.drewN_drewN]
    have e1 : (hcells ss diag (slowv cT) (rxv slow cR)).setIfInBounds 22 (.int .i64 nx) = F := (hh.set22 nx).eq.trans hF.eq.symm
    rw [e1]
  · refine (retime_keep (w1.heap.size + 1) w1.heap.size (slowv cT) r rs dm lat last nx now _ _ (hpa q) hT.1 hr hb hlt).mono ?_
    rintro e w' ⟨rfl, q', rfl⟩
    refine ⟨rfl, q + q', ?_⟩
    rw [World.drewN_drewN]
    have e1 : (hcells ss diag (slowv cT) (rxv slow cR)) = F := hh.eq.trans hF.eq.symm
    rw [e1]
  · refine (retime_draw (w1.heap.size + 1) w1.heap.size (slowv cT) r rs dm lat last next now _ (rndv n z) _ (hpa q) hT.1 hT2 hr hr2 hlt h3 h4 h5 h6 (fun q' => ((hji.drewN q).drewN q').draws)).mono ?_
    rintro e w' ⟨rfl, q', rfl⟩
    refine ⟨rfl, q + q', ?_⟩
    rw [sd, sd, wrld_set0, wrld_set1, World.drewN_drewN]
    have e1 : (hcells ss diag (slowv cT) (rxv slow cR)).setIfInBounds 22 (.int .i64 (nextv now next last (gapd (txv (slowv cT) r) dm lat (rndv n z)))) = F := (hh.set22 _).eq.trans hF.eq.symm
    rw [e1]
    rfl
end Go.Proofs.Ybulkehse
