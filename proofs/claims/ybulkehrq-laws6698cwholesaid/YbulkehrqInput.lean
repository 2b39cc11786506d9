/-
  The argument opened: a slice of drawn operations, each of six cells.
-/
import Derived.Test.YbulkehrqRows
import Derived.WalkKit
import Derived.ProofKit
import Derived.OpenShut
import Derived.ShutString
import Derived.ChangeOld
import Derived.Below
import Derived.Deep.Slices
namespace Go.Proofs.Ybulkehrq
open Go.ChangeShapes Go.WideShapes Go.ChangeAt Go.RowKit Go.Deep

theorem Yba.cells2 : Yba.prog.cellsOf 2 = 1 := by kernel_rfl
theorem Yba.cells3 : Yba.prog.cellsOf 3 = 1 := by kernel_rfl
theorem Yba.cells4 : Yba.prog.cellsOf 4 = 1 := by kernel_rfl
theorem Yba.cells24 : Yba.prog.cellsOf 24 = 1 := by kernel_rfl
theorem Yba.cells26 : Yba.prog.cellsOf 26 = 6 := by kernel_rfl

theorem elem_in {H : Type} {enc : TypeId × Value → H} {w : World} {base : Nat} {spare : Nat → Bool} {held : Bool} {fuel : Nat} {cs : List Value} {x : DataW H × List MemPlace}
    (h : DataW.trod enc Yba.prog w base spare held fuel 26 cs = some x) :
    ∃ (g a b : Int) (r e : Bool) (v : Int), cs = [.int .i64 g, .int .i16 a, .int .i16 b, .bool r, .bool e, .int .i64 v] ∧ (Lit.int .i16 a).wf = true ∧ (Lit.int .i16 b).wf = true := by
  obtain ⟨xs, n, _, _, hlen, hxl, hf⟩ := DataW.trod_struct Yba.underlying26 h
  rw [Yba.cells26] at hlen
  match cs, hlen with
  | [c0, c1, c2, c3, c4, c5], _ =>
    have hx : ∀ i, i < 6 → ∃ y, xs[i]? = some y := fun i hi => ⟨_, List.getElem?_eq_getElem (by simp at hxl; omega)⟩
    obtain ⟨y0, e0⟩ := hx 0 (by omega)
    obtain ⟨y1, e1⟩ := hx 1 (by omega)
    obtain ⟨y2, e2⟩ := hx 2 (by omega)
    obtain ⟨y3, e3⟩ := hx 3 (by omega)
    obtain ⟨y4, e4⟩ := hx 4 (by omega)
    obtain ⟨y5, e5⟩ := hx 5 (by omega)
    have g0 := (hf 0 _ rfl).trans e0
    have g1 := (hf 1 _ rfl).trans e1
    have g2 := (hf 2 _ rfl).trans e2
    have g3 := (hf 3 _ rfl).trans e3
    have g4 := (hf 4 _ rfl).trans e4
    have g5 := (hf 5 _ rfl).trans e5
    simp [Yba.cells2, Yba.cells3, Yba.cells4, Yba.cells24] at g0 g1 g2 g3 g4 g5
    obtain ⟨z0, f0, _, _⟩ := DataW.trod_int Yba.underlying3 g0
    obtain ⟨z1, f1, _, w1⟩ := DataW.trod_int Yba.underlying24 g1
    obtain ⟨z2, f2, _, w2⟩ := DataW.trod_int Yba.underlying24 g2
    obtain ⟨z3, f3, _⟩ := DataW.trod_bool Yba.underlying4 g3
    obtain ⟨z4, f4, _⟩ := DataW.trod_bool Yba.underlying4 g4
    obtain ⟨z5, f5, _, _⟩ := DataW.trod_int Yba.underlying2 g5
    simp at f0 f1 f2 f3 f4 f5
    subst f0 f1 f2 f3 f4 f5
    exact ⟨z0, z1, z2, z3, z4, z5, rfl, w1, w2⟩

/-- what the walk is told of the slice of drawn operations. -/
def IsOps (w : World) (a : Option Addr) (len cap : Nat) : Prop :=
  (a = none ∧ len = 0 ∧ cap = 0) ∨ (∃ x, a = some x ∧ len = 0) ∨
  ∃ (b off : Nat) (G A B : Nat → Int) (Rm Em : Nat → Bool) (V : Nat → Int), a = some ⟨b, off, none⟩ ∧ 1 ≤ len ∧ b < w.heap.size ∧ ∀ j, j < len →
    w.cell? ⟨b, off + j * 6, none⟩ = some (.int .i64 (G j)) ∧ w.cell? ⟨b, off + j * 6 + 1, none⟩ = some (.int .i16 (A j)) ∧ w.cell? ⟨b, off + j * 6 + 2, none⟩ = some (.int .i16 (B j)) ∧
    w.cell? ⟨b, off + j * 6 + 3, none⟩ = some (.bool (Rm j)) ∧ w.cell? ⟨b, off + j * 6 + 4, none⟩ = some (.bool (Em j)) ∧ w.cell? ⟨b, off + j * 6 + 5, none⟩ = some (.int .i64 (V j)) ∧
    (Lit.int .i16 (A j)).wf = true ∧ (Lit.int .i16 (B j)).wf = true

theorem block_lt {w : World} {b o : Nat} {v : Value} (h : w.cell? ⟨b, o, none⟩ = some v) : b < w.heap.size := by
  by_cases hb : b < w.heap.size
  · exact hb
  · simp [World.cell?, hb] at h

theorem open_ops {H : Type} {enc : TypeId × Value → H} {w : World} {spare : Nat → Bool} {held : Bool} {fuel : Nat} {a : Option Addr} {len cap : Nat} {x : DataW H × List MemPlace}
    (h : DataW.trod enc Yba.prog w 0 spare held fuel 22 [.slice a len cap] = some x) : IsOps w a len cap := by
  rcases open_slice Yba.underlying22 h with ⟨hcs, _⟩ | ⟨ad, l, c, m, n, D, Pl, hcs, _, hl, hm, hmm, _, hx⟩
  · simp at hcs
    exact Or.inl hcs
  simp at hcs
  obtain ⟨rfl, rfl, rfl⟩ := hcs
  by_cases h0 : len = 0
  · exact Or.inr (Or.inl ⟨ad, rfl, h0⟩)
  have hlm : len ≤ m := by rw [hmm]; split <;> omega
  have each : ∀ i, i < len → ∃ q : Int × Int × Int × Bool × Bool × Int, w.cell? (ad.add (i * 6)) = some (.int .i64 q.1) ∧ w.cell? (ad.add (i * 6 + 1)) = some (.int .i16 q.2.1) ∧ w.cell? (ad.add (i * 6 + 2)) = some (.int .i16 q.2.2.1) ∧
      w.cell? (ad.add (i * 6 + 3)) = some (.bool q.2.2.2.1) ∧ w.cell? (ad.add (i * 6 + 4)) = some (.bool q.2.2.2.2.1) ∧ w.cell? (ad.add (i * 6 + 5)) = some (.int .i64 q.2.2.2.2.2) ∧ (Lit.int .i16 q.2.1).wf = true ∧ (Lit.int .i16 q.2.2.1).wf = true := by
    intro i hi
    obtain ⟨cs', h1, h2⟩ := hx i (by omega)
    rw [Yba.cells26] at h1
    obtain ⟨_, _, hcell⟩ := World.cells?_some h1
    obtain ⟨g, a', b, r, e, v, rfl, wa, wb⟩ := elem_in h2
    have k0 := hcell 0 (by omega)
    have k1 := hcell 1 (by omega)
    have k2 := hcell 2 (by omega)
    have k3 := hcell 3 (by omega)
    have k4 := hcell 4 (by omega)
    have k5 := hcell 5 (by omega)
    rw [add_add] at k0 k1 k2 k3 k4 k5
    exact ⟨(g, a', b, r, e, v), by simpa using k0, by simpa using k1, by simpa using k2, by simpa using k3, by simpa using k4, by simpa using k5, wa, wb⟩
  obtain ⟨q, hq⟩ := choose_lt each
  obtain ⟨b, off, spot⟩ := ad
  have hs : spot = none := by simpa [Addr.add] using World.cell?_spot (hq 0 (by omega)).1
  subst hs
  refine Or.inr (Or.inr ⟨b, off, fun i => (q i).1, fun i => (q i).2.1, fun i => (q i).2.2.1, fun i => (q i).2.2.2.1, fun i => (q i).2.2.2.2.1, fun i => (q i).2.2.2.2.2, rfl, by omega, ?_, fun j hj => ?_⟩)
  · have := (hq 0 (by omega)).1
    rw [add_plain] at this
    exact block_lt this
  · have := hq j hj
    simp only [add_plain] at this
    simp only [Nat.add_assoc]
    exact this
end Go.Proofs.Ybulkehrq
