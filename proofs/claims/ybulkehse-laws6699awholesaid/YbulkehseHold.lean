/-
  Hold: its walk.
-/
import Derived.Test.YbulkehseDraw
namespace Go.Proofs.Ybulkehse
open Go.RowKit

theorem cs_other (w : World) (sb i j : Nat) (v : Value) (h : ¬ i = j) : (w.setCell ⟨sb, i, none⟩ v).cell? ⟨sb, j, none⟩ = w.cell? ⟨sb, j, none⟩ :=
  World.cell?_setCell_other w _ _ v (fun e => h (congrArg Addr.off e))
theorem cs_same (w : World) (sb i : Nat) (v u : Value) (h : w.cell? ⟨sb, i, none⟩ = some u) : (w.setCell ⟨sb, i, none⟩ v).cell? ⟨sb, i, none⟩ = some v :=
  World.cell?_setCell_same w _ v h

theorem sd (w : World) (a : Addr) (v : Value) (q : Nat) : (w.drewN q).setCell a v = (w.setCell a v).drewN q := rfl

/-- a session that is AdminDown is left as it is. -/
theorem hold_admin (sb : Nat) (now diag : Int) (w : World) (c8 : w.cell? ⟨sb, 8, none⟩ = some (.int .u8 0)) :
    Calls Yba.prog 8 #[.pointer (some ⟨sb, 0, none⟩), .int .i64 now, .int .u8 diag] w fun e w' => e = .returned (.pointer none) ∧ w' = w := by
  go_enter Yba.func8, Yba.ntmps8
  go_wp2
  go_ret
  exact ⟨rfl, rfl⟩

set_option maxHeartbeats 1000000 in
/-- one that is Down takes the diagnostic all the same. -/
theorem hold_down (sb : Nat) (now diag d r rs : Int) (pol : Bool) (w : World) (hf : ∀ i, w.frozen? ⟨sb, i, none⟩ = false) (c8 : w.cell? ⟨sb, 8, none⟩ = some (.int .u8 1)) (c10 : w.cell? ⟨sb, 10, none⟩ = some (.int .i64 d)) (c12 : w.cell? ⟨sb, 12, none⟩ = some (.bool pol)) (c16 : w.cell? ⟨sb, 16, none⟩ = some (.int .u8 rs)) (c17 : w.cell? ⟨sb, 17, none⟩ = some (.int .i64 r))
    (x9 : ∃ v, w.cell? ⟨sb, 9, none⟩ = some v) (x18 : ∃ v, w.cell? ⟨sb, 18, none⟩ = some v) :
    Calls Yba.prog 8 #[.pointer (some ⟨sb, 0, none⟩), .int .i64 now, .int .u8 diag] w fun e w' => e = .returned (.pointer none) ∧ ∃ q, w' = ((w.setCell ⟨sb, 18, none⟩ (.bool true)).setCell ⟨sb, 9, none⟩ (.int .u8 diag)).drewN q := by
  obtain ⟨v9, x9⟩ := x9
  obtain ⟨v18, x18⟩ := x18
  have hg := fun q => gapI_any sb 1 pol d r rs (w.drewN q) (by simpa using c8) (by simpa using c10) (by simpa using c12) (by simpa using c16) (by simpa using c17)
  generalize gapv 1 pol d r rs = g at *
  go_enter Yba.func8, Yba.ntmps8
  go_wp2
  go_quiet ((go_at_call 10; refine Calls.quiet_of (hg _)))
  go_wp2
  go_ret
  exact ⟨rfl, _, rfl⟩

/-- the jitter source lies in w, untouched; its first answer is rnd; it does not lie in the session's block. -/
def JitOk (sb : Nat) (w : World) (jb : Nat) (rnd : Int) : Prop :=
  w.cell? ⟨jb, 1, none⟩ = some (.int .i64 0) ∧ w.frozen? ⟨jb, 1, none⟩ = false ∧
  ((∃ a c, w.cell? ⟨jb, 0, none⟩ = some (.slice a 0 c) ∧ rnd = 0) ∨
   ∃ b off n c, 1 ≤ n ∧ n ≤ 1048576 ∧ b ≠ sb ∧ w.cell? ⟨jb, 0, none⟩ = some (.slice (some ⟨b, off, none⟩) n c) ∧ w.cell? ⟨b, off, none⟩ = some (.int .u64 rnd))

theorem JitOk.drewN {sb jb : Nat} {w : World} {rnd : Int} (h : JitOk sb w jb rnd) (q : Nat) : JitOk sb (w.drewN q) jb rnd := by
  simpa [JitOk] using h

theorem JitOk.setCell {sb jb : Nat} {w : World} {rnd : Int} (h : JitOk sb w jb rnd) (hne : sb ≠ jb) (i : Nat) (v : Value) : JitOk sb (w.setCell ⟨sb, i, none⟩ v) jb rnd := by
  have key : ∀ b o, b ≠ sb → (w.setCell ⟨sb, i, none⟩ v).cell? ⟨b, o, none⟩ = w.cell? ⟨b, o, none⟩ := fun b o hb =>
    World.cell?_setCell_other w _ _ v (fun e => hb (congrArg Addr.block e).symm)
  obtain ⟨h1, h2, h3⟩ := h
  refine ⟨(key _ _ hne.symm).trans h1, (World.frozen?_setCell _ _ _ _).trans h2, ?_⟩
  rcases h3 with ⟨a, c, h3, h4⟩ | ⟨b, off, n, c, a1, a2, a3, a4, a5⟩
  · exact Or.inl ⟨a, c, (key _ _ hne.symm).trans h3, h4⟩
  · exact Or.inr ⟨b, off, n, c, a1, a2, a3, (key _ _ hne.symm).trans a4, (key _ _ a3).trans a5⟩

theorem JitOk.draws {sb jb : Nat} {w : World} {rnd : Int} (h : JitOk sb w jb rnd) : Draws jb rnd w := by
  obtain ⟨h1, h2, ⟨a, c, h3, rfl⟩ | ⟨b, off, n, c, a1, a2, _, a4, a5⟩⟩ := h
  · exact u64_none jb a c w h3 h1 h2
  · exact u64_some jb b off n c rnd w a1 a2 a4 h1 h2 a5

/-- the session's cells that Hold reads. -/
structure Sess (w : World) (sb : Nat) (cT cR : Int) (slow : Bool) (dm lat st d : Int) (pol : Bool) (rd rs r last next : Int) (jb : Nat) : Prop where
  fz : ∀ i, w.frozen? ⟨sb, i, none⟩ = false
  c1 : w.cell? ⟨sb, 1, none⟩ = some (.int .i64 cT)
  c2 : w.cell? ⟨sb, 2, none⟩ = some (.int .i64 cR)
  c3 : w.cell? ⟨sb, 3, none⟩ = some (.bool slow)
  c4 : w.cell? ⟨sb, 4, none⟩ = some (.int .u8 dm)
  c6 : w.cell? ⟨sb, 6, none⟩ = some (.iface 28 (.pointer (some ⟨jb, 0, none⟩)))
  c7 : w.cell? ⟨sb, 7, none⟩ = some (.int .i64 lat)
  c8 : w.cell? ⟨sb, 8, none⟩ = some (.int .u8 st)
  x9 : ∃ v, w.cell? ⟨sb, 9, none⟩ = some v
  c10 : w.cell? ⟨sb, 10, none⟩ = some (.int .i64 d)
  x11 : ∃ v, w.cell? ⟨sb, 11, none⟩ = some v
  c12 : w.cell? ⟨sb, 12, none⟩ = some (.bool pol)
  x14 : ∃ v, w.cell? ⟨sb, 14, none⟩ = some v
  c15 : w.cell? ⟨sb, 15, none⟩ = some (.int .u32 rd)
  c16 : w.cell? ⟨sb, 16, none⟩ = some (.int .u8 rs)
  c17 : w.cell? ⟨sb, 17, none⟩ = some (.int .i64 r)
  x18 : ∃ v, w.cell? ⟨sb, 18, none⟩ = some v
  c21 : w.cell? ⟨sb, 21, none⟩ = some (.int .i64 last)
  c22 : w.cell? ⟨sb, 22, none⟩ = some (.int .i64 next)

/-- the session behind the first three stores and the pacing. -/
def held (w : World) (sb : Nat) (diag T X : Int) : World :=
  (((((((w.setCell ⟨sb, 18, none⟩ (.bool true)).setCell ⟨sb, 9, none⟩ (.int .u8 diag)).setCell ⟨sb, 8, none⟩ (.int .u8 1)).setCell ⟨sb, 12, none⟩ (.bool false)).setCell ⟨sb, 14, none⟩ (.int .i64 X)).setCell ⟨sb, 10, none⟩ (.int .i64 T)).setCell ⟨sb, 11, none⟩ (.int .i64 X))

theorem held_paced {w : World} {sb : Nat} {cT cR : Int} {slow : Bool} {dm lat st d : Int} {pol : Bool} {rd rs r last next : Int} {jb : Nat} (h : Sess w sb cT cR slow dm lat st d pol rd rs r last next jb) (diag T X : Int) (q : Nat) :
    Paced ((held w sb diag T X).drewN q) sb T r rs dm lat last next jb := by
  obtain ⟨v9, x9⟩ := h.x9
  obtain ⟨v11, x11⟩ := h.x11
  obtain ⟨v14, x14⟩ := h.x14
  obtain ⟨v18, x18⟩ := h.x18
  constructor
  all_goals simp only [World.cell?_drewN, World.frozen?_drewN, held, World.frozen?_setCell]
  · rw [cs_other _ _ _ _ _ (by decide), cs_other _ _ _ _ _ (by decide), cs_other _ _ _ _ _ (by decide), cs_other _ _ _ _ _ (by decide), cs_other _ _ _ _ _ (by decide), cs_other _ _ _ _ _ (by decide), cs_other _ _ _ _ _ (by decide)]; exact h.c4
  · rw [cs_other _ _ _ _ _ (by decide), cs_other _ _ _ _ _ (by decide), cs_other _ _ _ _ _ (by decide), cs_other _ _ _ _ _ (by decide), cs_other _ _ _ _ _ (by decide), cs_other _ _ _ _ _ (by decide), cs_other _ _ _ _ _ (by decide)]; exact h.c6
  · rw [cs_other _ _ _ _ _ (by decide), cs_other _ _ _ _ _ (by decide), cs_other _ _ _ _ _ (by decide), cs_other _ _ _ _ _ (by decide), cs_other _ _ _ _ _ (by decide), cs_other _ _ _ _ _ (by decide), cs_other _ _ _ _ _ (by decide)]; exact h.c7
  · rw [cs_other _ _ _ _ _ (by decide), cs_other _ _ _ _ _ (by decide), cs_other _ _ _ _ _ (by decide), cs_other _ _ _ _ _ (by decide)]
    exact cs_same _ _ _ _ (.int .u8 st) (by rw [cs_other _ _ _ _ _ (by decide), cs_other _ _ _ _ _ (by decide)]; exact h.c8)
  · rw [cs_other _ _ _ _ _ (by decide)]
    exact cs_same _ _ _ _ (.int .i64 d) (by rw [cs_other _ _ _ _ _ (by decide), cs_other _ _ _ _ _ (by decide), cs_other _ _ _ _ _ (by decide), cs_other _ _ _ _ _ (by decide), cs_other _ _ _ _ _ (by decide)]; exact h.c10)
  · rw [cs_other _ _ _ _ _ (by decide), cs_other _ _ _ _ _ (by decide), cs_other _ _ _ _ _ (by decide)]
    exact cs_same _ _ _ _ (.bool pol) (by rw [cs_other _ _ _ _ _ (by decide), cs_other _ _ _ _ _ (by decide), cs_other _ _ _ _ _ (by decide)]; exact h.c12)
  · rw [cs_other _ _ _ _ _ (by decide), cs_other _ _ _ _ _ (by decide), cs_other _ _ _ _ _ (by decide), cs_other _ _ _ _ _ (by decide), cs_other _ _ _ _ _ (by decide), cs_other _ _ _ _ _ (by decide), cs_other _ _ _ _ _ (by decide)]; exact h.c16
  · rw [cs_other _ _ _ _ _ (by decide), cs_other _ _ _ _ _ (by decide), cs_other _ _ _ _ _ (by decide), cs_other _ _ _ _ _ (by decide), cs_other _ _ _ _ _ (by decide), cs_other _ _ _ _ _ (by decide), cs_other _ _ _ _ _ (by decide)]; exact h.c17
  · rw [cs_other _ _ _ _ _ (by decide), cs_other _ _ _ _ _ (by decide), cs_other _ _ _ _ _ (by decide), cs_other _ _ _ _ _ (by decide), cs_other _ _ _ _ _ (by decide), cs_other _ _ _ _ _ (by decide), cs_other _ _ _ _ _ (by decide)]; exact h.c21
  · rw [cs_other _ _ _ _ _ (by decide), cs_other _ _ _ _ _ (by decide), cs_other _ _ _ _ _ (by decide), cs_other _ _ _ _ _ (by decide), cs_other _ _ _ _ _ (by decide), cs_other _ _ _ _ _ (by decide), cs_other _ _ _ _ _ (by decide)]; exact h.c22
  · exact h.fz 22

set_option maxHeartbeats 1000000 in
theorem hold_other {w : World} {sb : Nat} {cT cR : Int} {slow : Bool} {dm lat st d : Int} {pol : Bool} {rd rs r last next : Int} {jb : Nat} (h : Sess w sb cT cR slow dm lat st d pol rd rs r last next jb) (now diag : Int) (hs0 : st ≠ 0) (hs1 : st ≠ 1) (Z : World)
    (hret : ∀ q, Calls Yba.prog 12 #[.pointer (some ⟨sb, 0, none⟩), .int .i64 now, .int .i64 (gapv st pol d r rs), .bool true] ((held w sb diag (slowv cT) (rxv slow cR)).drewN q) fun e w' => e = .returned (.tuple #[]) ∧ ∃ q', w' = Z.drewN q')
    (hZ : Z.cell? ⟨sb, 15, none⟩ = some (.int .u32 rd)) :
    Calls Yba.prog 8 #[.pointer (some ⟨sb, 0, none⟩), .int .i64 now, .int .u8 diag] w fun e w' => e = .returned (.pointer (some ⟨Z.heap.size, 0, none⟩)) ∧ ∃ q, w' = (Z.alloc (.cells #[.int .u8 st, .int .u8 1, .int .u8 diag, .int .u32 rd, .pointer none] 48)).drewN q := by
  obtain ⟨fz, c1, c2, c3, c4, c6, c7, c8, ⟨v9, x9⟩, c10, ⟨v11, x11⟩, c12, ⟨v14, x14⟩, c15, c16, c17, ⟨v18, x18⟩, c21, c22⟩ := h
  have hg := fun q => gapI_any sb st pol d r rs (w.drewN q) (by simpa using c8) (by simpa using c10) (by simpa using c12) (by simpa using c16) (by simpa using c17)
  have b0 : (st == 0) = false := by simpa using hs0
  have b1 : (st == 1) = false := by simpa using hs1
  have hpace : ∀ q, Calls Yba.prog 11 #[.pointer (some ⟨sb, 0, none⟩)] ((((w.setCell ⟨sb, 18, none⟩ (.bool true)).setCell ⟨sb, 9, none⟩ (.int .u8 diag)).setCell ⟨sb, 8, none⟩ (.int .u8 1)).drewN q) fun e w' => e = .returned (.tuple #[]) ∧ ∃ q', w' = (held w sb diag (slowv cT) (rxv slow cR)).drewN q' := fun q =>
    (pace_any sb cT cR slow _ (fun i => by simp only [World.frozen?_drewN, World.frozen?_setCell]; exact fz i)
      (by rw [World.cell?_drewN, cs_other _ _ _ _ _ (by decide), cs_other _ _ _ _ _ (by decide), cs_other _ _ _ _ _ (by decide)]; exact c1)
      (by rw [World.cell?_drewN, cs_other _ _ _ _ _ (by decide), cs_other _ _ _ _ _ (by decide), cs_other _ _ _ _ _ (by decide)]; exact c2)
      (by rw [World.cell?_drewN, cs_other _ _ _ _ _ (by decide), cs_other _ _ _ _ _ (by decide), cs_other _ _ _ _ _ (by decide)]; exact c3)
      (by rw [World.cell?_drewN]; exact cs_same _ _ _ _ (.int .u8 st) (by rw [cs_other _ _ _ _ _ (by decide), cs_other _ _ _ _ _ (by decide)]; exact c8))
      ⟨_, by rw [World.cell?_drewN, cs_other _ _ _ _ _ (by decide), cs_other _ _ _ _ _ (by decide), cs_other _ _ _ _ _ (by decide)]; exact c10⟩
      ⟨_, by rw [World.cell?_drewN, cs_other _ _ _ _ _ (by decide), cs_other _ _ _ _ _ (by decide), cs_other _ _ _ _ _ (by decide)]; exact x11⟩
      ⟨_, by rw [World.cell?_drewN, cs_other _ _ _ _ _ (by decide), cs_other _ _ _ _ _ (by decide), cs_other _ _ _ _ _ (by decide)]; exact c12⟩
      ⟨_, by rw [World.cell?_drewN, cs_other _ _ _ _ _ (by decide), cs_other _ _ _ _ _ (by decide), cs_other _ _ _ _ _ (by decide)]; exact x14⟩).mono
      fun e w' ⟨he, q', hw⟩ => ⟨he, q + q', by rw [hw, sd, sd, sd, sd, World.drewN_drewN, held]⟩
  generalize gapv st pol d r rs = g at *
  generalize hHW : held w sb diag (slowv cT) (rxv slow cR) = HW at *
  clear hHW
  go_enter Yba.func8, Yba.ntmps8
  go_wp2
  go_quiet ((go_at_call 10; refine Calls.quiet_of (hg _)))
  go_wp2_with fail
  refine (hpace nq).mono ?_
  rintro e w' ⟨rfl, q1, rfl⟩
  go_wp2_with fail
  refine (hret _).mono ?_
  rintro e w' ⟨rfl, q2, rfl⟩
  go_wp2
  go_ret
  exact ⟨rfl, _, rfl⟩

end Go.Proofs.Ybulkehse
