/-
  The argument opened: a struct of 23 cells, one of them a slice.
-/
import Derived.Test.YbulkehseFin
import Derived.WalkKit
import Derived.ProofKit
import Derived.OpenShut
import Derived.ShutString
import Derived.ChangeOld
import Derived.Below
import Derived.Deep.Slices
namespace Go.Proofs.Ybulkehse
open Go.ChangeShapes Go.WideShapes Go.ChangeAt Go.RowKit Go.Deep

theorem Yba.cells2 : Yba.prog.cellsOf 2 = 1 := by kernel_rfl
theorem Yba.cells4 : Yba.prog.cellsOf 4 = 1 := by kernel_rfl
theorem Yba.cells5 : Yba.prog.cellsOf 5 = 1 := by kernel_rfl
theorem Yba.cells22 : Yba.prog.cellsOf 22 = 1 := by kernel_rfl
theorem Yba.cells23 : Yba.prog.cellsOf 23 = 1 := by kernel_rfl
theorem Yba.cells27 : Yba.prog.cellsOf 27 = 1 := by kernel_rfl
theorem Yba.cells25 : Yba.prog.cellsOf 25 = 23 := by kernel_rfl

theorem block_lt {w : World} {b o : Nat} {v : Value} (h : w.cell? ⟨b, o, none⟩ = some v) : b < w.heap.size := by
  by_cases hb : b < w.heap.size
  · exact hb
  · simp [World.cell?, hb] at h

/-- what the walk is told of the answers. -/
def IsJit (w : World) (a : Option Addr) (len cap : Nat) : Prop :=
  (a = none ∧ len = 0 ∧ cap = 0) ∨ (∃ x, a = some x ∧ len = 0) ∨
  ∃ (b off : Nat) (z : Nat → Int), a = some ⟨b, off, none⟩ ∧ 1 ≤ len ∧ b < w.heap.size ∧ ∀ j, j < len → w.cell? ⟨b, off + j, none⟩ = some (.int .u64 (z j)) ∧ (Lit.int .u64 (z j)).wf = true

theorem open_jit {H : Type} {enc : TypeId × Value → H} {w : World} {spare : Nat → Bool} {held : Bool} {fuel : Nat} {a : Option Addr} {len cap : Nat} {x : DataW H × List MemPlace}
    (h : DataW.trod enc Yba.prog w 0 spare held fuel 23 [.slice a len cap] = some x) : IsJit w a len cap := by
  rcases open_slice Yba.underlying23 h with ⟨hcs, _⟩ | ⟨ad, l, c, m, n, D, Pl, hcs, _, hl, hm, hmm, _, hx⟩
  · simp at hcs
    exact Or.inl hcs
  simp at hcs
  obtain ⟨rfl, rfl, rfl⟩ := hcs
  by_cases h0 : len = 0
  · exact Or.inr (Or.inl ⟨ad, rfl, h0⟩)
  have hlm : len ≤ m := by rw [hmm]; split <;> omega
  have each : ∀ i, i < len → ∃ q : Int, w.cell? (ad.add i) = some (.int .u64 q) ∧ (Lit.int .u64 q).wf = true := by
    intro i hi
    obtain ⟨cs', h1, h2⟩ := hx i (by omega)
    rw [Yba.cells27] at h1
    obtain ⟨_, _, hcell⟩ := World.cells?_some h1
    obtain ⟨q, rfl, _, wq⟩ := DataW.trod_int Yba.underlying27 h2
    have k0 := hcell 0 (by omega)
    rw [add_add] at k0
    exact ⟨q, by simpa using k0, wq⟩
  obtain ⟨q, hq⟩ := choose_lt each
  obtain ⟨b, off, spot⟩ := ad
  have hs : spot = none := by simpa [Addr.add] using World.cell?_spot (hq 0 (by omega)).1
  subst hs
  refine Or.inr (Or.inr ⟨b, off, q, rfl, by omega, ?_, fun j hj => ?_⟩)
  · have := (hq 0 (by omega)).1
    rw [add_plain] at this
    exact block_lt this
  · have := hq j hj
    simp only [add_plain] at this
    exact this

theorem bd_u8 {x : Int} (h : (Lit.int .u8 x).wf = true) : 0 ≤ x := by
  simp [Lit.wf, IntKind.min, IntKind.max, IntKind.signed, IntKind.bits] at h
  omega
theorem bd_i64 {x : Int} (h : (Lit.int .i64 x).wf = true) : -9223372036854775808 ≤ x ∧ x ≤ 9223372036854775807 := by
  simp [Lit.wf, IntKind.min, IntKind.max, IntKind.signed, IntKind.bits] at h
  omega
theorem bd_u64 {x : Int} (h : (Lit.int .u64 x).wf = true) : 0 ≤ x ∧ x ≤ 18446744073709551615 := by
  simp [Lit.wf, IntKind.min, IntKind.max, IntKind.signed, IntKind.bits] at h
  omega

set_option maxHeartbeats 4000000 in
set_option maxRecDepth 10000 in
theorem open_state {H : Type} {enc : TypeId × Value → H} {w : World} {spare : Nat → Bool} {held : Bool} {fuel : Nat} {cs : List Value} {x : DataW H × List MemPlace}
    (h : DataW.trod enc Yba.prog w 0 spare held fuel 25 cs = some x) :
    ∃ (md cT cR : Int) (slow : Bool) (dm role lat : Int) (ja : Option Addr) (n c : Nat) (st0 dg d rr : Int) (pol ad : Bool) (dmr rd rs0 r : Int) (hl dt : Bool) (da last next : Int), cs = [.int .u32 md, .int .i64 cT, .int .i64 cR, .bool slow, .int .u8 dm, .int .u8 role, .int .i64 lat, .slice ja n c, .int .u8 st0, .int .u8 dg, .int .i64 d, .int .i64 rr, .bool pol, .bool ad, .int .i64 dmr, .int .u32 rd, .int .u8 rs0, .int .i64 r, .bool hl, .bool dt, .int .i64 da, .int .i64 last, .int .i64 next] ∧
      IsJit w ja n c ∧ 0 ≤ role ∧ 0 ≤ st0 ∧ 0 ≤ rs0 ∧ cT ≤ 9223372036854775807 ∧ r ≤ 9223372036854775807 ∧ -9223372036854775808 ≤ lat ∧ lat ≤ 9223372036854775807 := by
  obtain ⟨xs, n, _, _, hlen, hxl, hf⟩ := DataW.trod_struct Yba.underlying25 h
  rw [Yba.cells25] at hlen
  match cs, hlen with
  | [c0, c1, c2, c3, c4, c5, c6, c7, c8, c9, c10, c11, c12, c13, c14, c15, c16, c17, c18, c19, c20, c21, c22], _ =>
    have hx : ∀ i, i < 23 → ∃ y, xs[i]? = some y := fun i hi => ⟨_, List.getElem?_eq_getElem (by simp at hxl; omega)⟩
    obtain ⟨y0, e0⟩ := hx 0 (by omega)
    have g0 := (hf 0 _ rfl).trans e0
    simp [Yba.cells22] at g0
    obtain ⟨y1, e1⟩ := hx 1 (by omega)
    have g1 := (hf 1 _ rfl).trans e1
    simp [Yba.cells2] at g1
    obtain ⟨y2, e2⟩ := hx 2 (by omega)
    have g2 := (hf 2 _ rfl).trans e2
    simp [Yba.cells2] at g2
    obtain ⟨y3, e3⟩ := hx 3 (by omega)
    have g3 := (hf 3 _ rfl).trans e3
    simp [Yba.cells4] at g3
    obtain ⟨y4, e4⟩ := hx 4 (by omega)
    have g4 := (hf 4 _ rfl).trans e4
    simp [Yba.cells5] at g4
    obtain ⟨y5, e5⟩ := hx 5 (by omega)
    have g5 := (hf 5 _ rfl).trans e5
    simp [Yba.cells5] at g5
    obtain ⟨y6, e6⟩ := hx 6 (by omega)
    have g6 := (hf 6 _ rfl).trans e6
    simp [Yba.cells2] at g6
    obtain ⟨y7, e7⟩ := hx 7 (by omega)
    have g7 := (hf 7 _ rfl).trans e7
    simp [Yba.cells23] at g7
    obtain ⟨y8, e8⟩ := hx 8 (by omega)
    have g8 := (hf 8 _ rfl).trans e8
    simp [Yba.cells5] at g8
    obtain ⟨y9, e9⟩ := hx 9 (by omega)
    have g9 := (hf 9 _ rfl).trans e9
    simp [Yba.cells5] at g9
    obtain ⟨y10, e10⟩ := hx 10 (by omega)
    have g10 := (hf 10 _ rfl).trans e10
    simp [Yba.cells2] at g10
    obtain ⟨y11, e11⟩ := hx 11 (by omega)
    have g11 := (hf 11 _ rfl).trans e11
    simp [Yba.cells2] at g11
    obtain ⟨y12, e12⟩ := hx 12 (by omega)
    have g12 := (hf 12 _ rfl).trans e12
    simp [Yba.cells4] at g12
    obtain ⟨y13, e13⟩ := hx 13 (by omega)
    have g13 := (hf 13 _ rfl).trans e13
    simp [Yba.cells4] at g13
    obtain ⟨y14, e14⟩ := hx 14 (by omega)
    have g14 := (hf 14 _ rfl).trans e14
    simp [Yba.cells2] at g14
    obtain ⟨y15, e15⟩ := hx 15 (by omega)
    have g15 := (hf 15 _ rfl).trans e15
    simp [Yba.cells22] at g15
    obtain ⟨y16, e16⟩ := hx 16 (by omega)
    have g16 := (hf 16 _ rfl).trans e16
    simp [Yba.cells5] at g16
    obtain ⟨y17, e17⟩ := hx 17 (by omega)
    have g17 := (hf 17 _ rfl).trans e17
    simp [Yba.cells2] at g17
    obtain ⟨y18, e18⟩ := hx 18 (by omega)
    have g18 := (hf 18 _ rfl).trans e18
    simp [Yba.cells4] at g18
    obtain ⟨y19, e19⟩ := hx 19 (by omega)
    have g19 := (hf 19 _ rfl).trans e19
    simp [Yba.cells4] at g19
    obtain ⟨y20, e20⟩ := hx 20 (by omega)
    have g20 := (hf 20 _ rfl).trans e20
    simp [Yba.cells2] at g20
    obtain ⟨y21, e21⟩ := hx 21 (by omega)
    have g21 := (hf 21 _ rfl).trans e21
    simp [Yba.cells2] at g21
    obtain ⟨y22, e22⟩ := hx 22 (by omega)
    have g22 := (hf 22 _ rfl).trans e22
    simp [Yba.cells2] at g22
    have j7 := g7
    rcases open_slice Yba.underlying23 g7 with ⟨f7, _⟩ | ⟨q1, q2, q3, _, _, _, _, f7, _⟩
    · skip
      obtain ⟨z0, f0, _, v0⟩ := DataW.trod_int Yba.underlying22 g0
      obtain ⟨z1, f1, _, v1⟩ := DataW.trod_int Yba.underlying2 g1
      obtain ⟨z2, f2, _, v2⟩ := DataW.trod_int Yba.underlying2 g2
      obtain ⟨z3, f3, _⟩ := DataW.trod_bool Yba.underlying4 g3
      obtain ⟨z4, f4, _, v4⟩ := DataW.trod_int Yba.underlying5 g4
      obtain ⟨z5, f5, _, v5⟩ := DataW.trod_int Yba.underlying5 g5
      obtain ⟨z6, f6, _, v6⟩ := DataW.trod_int Yba.underlying2 g6
      obtain ⟨z8, f8, _, v8⟩ := DataW.trod_int Yba.underlying5 g8
      obtain ⟨z9, f9, _, v9⟩ := DataW.trod_int Yba.underlying5 g9
      obtain ⟨z10, f10, _, v10⟩ := DataW.trod_int Yba.underlying2 g10
      obtain ⟨z11, f11, _, v11⟩ := DataW.trod_int Yba.underlying2 g11
      obtain ⟨z12, f12, _⟩ := DataW.trod_bool Yba.underlying4 g12
      obtain ⟨z13, f13, _⟩ := DataW.trod_bool Yba.underlying4 g13
      obtain ⟨z14, f14, _, v14⟩ := DataW.trod_int Yba.underlying2 g14
      obtain ⟨z15, f15, _, v15⟩ := DataW.trod_int Yba.underlying22 g15
      obtain ⟨z16, f16, _, v16⟩ := DataW.trod_int Yba.underlying5 g16
      obtain ⟨z17, f17, _, v17⟩ := DataW.trod_int Yba.underlying2 g17
      obtain ⟨z18, f18, _⟩ := DataW.trod_bool Yba.underlying4 g18
      obtain ⟨z19, f19, _⟩ := DataW.trod_bool Yba.underlying4 g19
      obtain ⟨z20, f20, _, v20⟩ := DataW.trod_int Yba.underlying2 g20
      obtain ⟨z21, f21, _, v21⟩ := DataW.trod_int Yba.underlying2 g21
      obtain ⟨z22, f22, _, v22⟩ := DataW.trod_int Yba.underlying2 g22
      simp only [List.cons.injEq, and_true] at f0 f1 f2 f3 f4 f5 f6 f7 f8 f9 f10 f11 f12 f13 f14 f15 f16 f17 f18 f19 f20 f21 f22
      subst f0 f1 f2 f3 f4 f5 f6 f7 f8 f9 f10 f11 f12 f13 f14 f15 f16 f17 f18 f19 f20 f21 f22
      exact ⟨z0, z1, z2, z3, z4, z5, z6, none, 0, 0, z8, z9, z10, z11, z12, z13, z14, z15, z16, z17, z18, z19, z20, z21, z22, rfl, open_jit j7, bd_u8 v5, bd_u8 v8, bd_u8 v16, (bd_i64 v1).2, (bd_i64 v17).2, bd_i64 v6⟩
    · skip
      obtain ⟨z0, f0, _, v0⟩ := DataW.trod_int Yba.underlying22 g0
      obtain ⟨z1, f1, _, v1⟩ := DataW.trod_int Yba.underlying2 g1
      obtain ⟨z2, f2, _, v2⟩ := DataW.trod_int Yba.underlying2 g2
      obtain ⟨z3, f3, _⟩ := DataW.trod_bool Yba.underlying4 g3
      obtain ⟨z4, f4, _, v4⟩ := DataW.trod_int Yba.underlying5 g4
      obtain ⟨z5, f5, _, v5⟩ := DataW.trod_int Yba.underlying5 g5
      obtain ⟨z6, f6, _, v6⟩ := DataW.trod_int Yba.underlying2 g6
      obtain ⟨z8, f8, _, v8⟩ := DataW.trod_int Yba.underlying5 g8
      obtain ⟨z9, f9, _, v9⟩ := DataW.trod_int Yba.underlying5 g9
      obtain ⟨z10, f10, _, v10⟩ := DataW.trod_int Yba.underlying2 g10
      obtain ⟨z11, f11, _, v11⟩ := DataW.trod_int Yba.underlying2 g11
      obtain ⟨z12, f12, _⟩ := DataW.trod_bool Yba.underlying4 g12
      obtain ⟨z13, f13, _⟩ := DataW.trod_bool Yba.underlying4 g13
      obtain ⟨z14, f14, _, v14⟩ := DataW.trod_int Yba.underlying2 g14
      obtain ⟨z15, f15, _, v15⟩ := DataW.trod_int Yba.underlying22 g15
      obtain ⟨z16, f16, _, v16⟩ := DataW.trod_int Yba.underlying5 g16
      obtain ⟨z17, f17, _, v17⟩ := DataW.trod_int Yba.underlying2 g17
      obtain ⟨z18, f18, _⟩ := DataW.trod_bool Yba.underlying4 g18
      obtain ⟨z19, f19, _⟩ := DataW.trod_bool Yba.underlying4 g19
      obtain ⟨z20, f20, _, v20⟩ := DataW.trod_int Yba.underlying2 g20
      obtain ⟨z21, f21, _, v21⟩ := DataW.trod_int Yba.underlying2 g21
      obtain ⟨z22, f22, _, v22⟩ := DataW.trod_int Yba.underlying2 g22
      simp only [List.cons.injEq, and_true] at f0 f1 f2 f3 f4 f5 f6 f7 f8 f9 f10 f11 f12 f13 f14 f15 f16 f17 f18 f19 f20 f21 f22
      subst f0 f1 f2 f3 f4 f5 f6 f7 f8 f9 f10 f11 f12 f13 f14 f15 f16 f17 f18 f19 f20 f21 f22
      exact ⟨z0, z1, z2, z3, z4, z5, z6, some q1, q2, q3, z8, z9, z10, z11, z12, z13, z14, z15, z16, z17, z18, z19, z20, z21, z22, rfl, open_jit j7, bd_u8 v5, bd_u8 v8, bd_u8 v16, (bd_i64 v1).2, (bd_i64 v17).2, bd_i64 v6⟩
end Go.Proofs.Ybulkehse
