/-
  The arguments opened: a slice of elements, each of five cells; a slice of entries, each of six.
-/
import Derived.Test.YboneofkuRows
import Derived.WalkKit
import Derived.ProofKit
import Derived.OpenShut
import Derived.ShutString
import Derived.ChangeOld
import Derived.Below
import Derived.Deep.Slices
namespace Go.Proofs.Yboneofku
open Go.ChangeShapes Go.WideShapes Go.ChangeAt Go.RowKit Go.Deep

theorem Ybgu.cells2 : Ybgu.prog.cellsOf 2 = 1 := by kernel_rfl
theorem Ybgu.cells4 : Ybgu.prog.cellsOf 4 = 1 := by kernel_rfl
theorem Ybgu.cells5 : Ybgu.prog.cellsOf 5 = 1 := by kernel_rfl
theorem Ybgu.cells9 : Ybgu.prog.cellsOf 9 = 1 := by kernel_rfl
theorem Ybgu.cells53 : Ybgu.prog.cellsOf 53 = 5 := by kernel_rfl
theorem Ybgu.cells33 : Ybgu.prog.cellsOf 33 = 6 := by kernel_rfl

theorem elem_in {H : Type} {enc : TypeId × Value → H} {w : World} {base : Nat} {spare : Nat → Bool} {held : Bool} {fuel : Nat} {cs : List Value} {x : DataW H × List MemPlace}
    (h : DataW.trod enc Ybgu.prog w base spare held fuel 53 cs = some x) :
    ∃ (a : Int) (s : ByteArray) (n : Int) (b : Bool) (t : Int), cs = [.int .u8 a, .string s, .int .i64 n, .bool b, .int .i64 t] ∧ (Lit.int .u8 a).wf = true ∧ (Lit.int .i64 n).wf = true := by
  obtain ⟨xs, n, _, _, hlen, hxl, hf⟩ := DataW.trod_struct Ybgu.underlying53 h
  rw [Ybgu.cells53] at hlen
  match cs, hlen with
  | [c0, c1, c2, c3, c4], _ =>
    have hx : ∀ i, i < 5 → ∃ y, xs[i]? = some y := fun i hi => ⟨_, List.getElem?_eq_getElem (by simp at hxl; omega)⟩
    obtain ⟨y0, e0⟩ := hx 0 (by omega)
    obtain ⟨y1, e1⟩ := hx 1 (by omega)
    obtain ⟨y2, e2⟩ := hx 2 (by omega)
    obtain ⟨y3, e3⟩ := hx 3 (by omega)
    obtain ⟨y4, e4⟩ := hx 4 (by omega)
    have g0 := (hf 0 _ rfl).trans e0
    have g1 := (hf 1 _ rfl).trans e1
    have g2 := (hf 2 _ rfl).trans e2
    have g3 := (hf 3 _ rfl).trans e3
    have g4 := (hf 4 _ rfl).trans e4
    simp [Ybgu.cells2, Ybgu.cells4, Ybgu.cells5, Ybgu.cells9] at g0 g1 g2 g3 g4
    obtain ⟨z0, f0, _, w0⟩ := DataW.trod_int Ybgu.underlying5 g0
    obtain ⟨z1, f1, _⟩ := DataW.trod_string Ybgu.underlying9 g1
    obtain ⟨z2, f2, _, w2⟩ := DataW.trod_int Ybgu.underlying2 g2
    obtain ⟨z3, f3, _⟩ := DataW.trod_bool Ybgu.underlying4 g3
    obtain ⟨z4, f4, _, _⟩ := DataW.trod_int Ybgu.underlying2 g4
    simp at f0 f1 f2 f3 f4
    subst f0 f1 f2 f3 f4
    exact ⟨z0, z1, z2, z3, z4, rfl, w0, w2⟩

theorem entry_in {H : Type} {enc : TypeId × Value → H} {w : World} {base : Nat} {spare : Nat → Bool} {held : Bool} {fuel : Nat} {cs : List Value} {x : DataW H × List MemPlace}
    (h : DataW.trod enc Ybgu.prog w base spare held fuel 33 cs = some x) :
    ∃ (n : Int) (l : Bool) (t : Int) (s : ByteArray) (p : Int) (u : Bool), cs = [.int .i64 n, .bool l, .int .i64 t, .string s, .int .i64 p, .bool u] ∧ (Lit.int .i64 n).wf = true := by
  obtain ⟨xs, n, _, _, hlen, hxl, hf⟩ := DataW.trod_struct Ybgu.underlying33 h
  rw [Ybgu.cells33] at hlen
  match cs, hlen with
  | [c0, c1, c2, c3, c4, c5], _ =>
    have hx : ∀ i, i < 6 → ∃ y, xs[i]? = some y := fun i hi => ⟨_, List.getElem?_eq_getElem (by simp at hxl; omega)⟩
    obtain ⟨y0, e0⟩ := hx 0 (by omega)
    obtain ⟨y1, e1⟩ := hx 1 (by omega)
    obtain ⟨y2, e2⟩ := hx 2 (by omega)
    obtain ⟨y3, e3⟩ := hx 3 (by omega)
    obtain ⟨y4, e4⟩ := hx 4 (by omega)
    obtain ⟨y5, e5⟩ := hx 5 (by omega)
    have g0 := (hf 0 _ rfl).trans e0
    have g1 := (hf 1 _ rfl).trans e1
    have g2 := (hf 2 _ rfl).trans e2
    have g3 := (hf 3 _ rfl).trans e3
    have g4 := (hf 4 _ rfl).trans e4
    have g5 := (hf 5 _ rfl).trans e5
    simp [Ybgu.cells2, Ybgu.cells4, Ybgu.cells9] at g0 g1 g2 g3 g4 g5
    obtain ⟨z0, f0, _, w0⟩ := DataW.trod_int Ybgu.underlying2 g0
    obtain ⟨z1, f1, _⟩ := DataW.trod_bool Ybgu.underlying4 g1
    obtain ⟨z2, f2, _, _⟩ := DataW.trod_int Ybgu.underlying2 g2
    obtain ⟨z3, f3, _⟩ := DataW.trod_string Ybgu.underlying9 g3
    obtain ⟨z4, f4, _, _⟩ := DataW.trod_int Ybgu.underlying2 g4
    obtain ⟨z5, f5, _⟩ := DataW.trod_bool Ybgu.underlying4 g5
    simp at f0 f1 f2 f3 f4 f5
    subst f0 f1 f2 f3 f4 f5
    exact ⟨z0, z1, z2, z3, z4, z5, rfl, w0⟩

theorem block_lt {w : World} {b o : Nat} {v : Value} (h : w.cell? ⟨b, o, none⟩ = some v) : b < w.heap.size := by
  by_cases hb : b < w.heap.size
  · exact hb
  · simp [World.cell?, hb] at h

/-- what the walk is told of the elements. -/
def IsElems (w : World) (a : Option Addr) (len : Nat) : Prop :=
  len = 0 ∨
  ∃ (b off : Nat) (A : Nat → Int) (S : Nat → ByteArray) (N : Nat → Int) (B : Nat → Bool) (T : Nat → Int), a = some ⟨b, off, none⟩ ∧ b < w.heap.size ∧ ∀ j, j < len →
    w.cell? ⟨b, off + j * 5, none⟩ = some (.int .u8 (A j)) ∧ w.cell? ⟨b, off + j * 5 + 1, none⟩ = some (.string (S j)) ∧ w.cell? ⟨b, off + j * 5 + 2, none⟩ = some (.int .i64 (N j)) ∧
    w.cell? ⟨b, off + j * 5 + 3, none⟩ = some (.bool (B j)) ∧ w.cell? ⟨b, off + j * 5 + 4, none⟩ = some (.int .i64 (T j)) ∧ (Lit.int .u8 (A j)).wf = true ∧ (Lit.int .i64 (N j)).wf = true

/-- what the walk is told of the entries. -/
def IsEntries (w : World) (a : Option Addr) (len : Nat) : Prop :=
  len = 0 ∨
  ∃ (b off : Nat) (N : Nat → Int) (L : Nat → Bool) (T : Nat → Int) (S : Nat → ByteArray) (P : Nat → Int) (U : Nat → Bool), a = some ⟨b, off, none⟩ ∧ b < w.heap.size ∧ ∀ j, j < len →
    w.cell? ⟨b, off + j * 6, none⟩ = some (.int .i64 (N j)) ∧ w.cell? ⟨b, off + j * 6 + 1, none⟩ = some (.bool (L j)) ∧ w.cell? ⟨b, off + j * 6 + 2, none⟩ = some (.int .i64 (T j)) ∧
    w.cell? ⟨b, off + j * 6 + 3, none⟩ = some (.string (S j)) ∧ w.cell? ⟨b, off + j * 6 + 4, none⟩ = some (.int .i64 (P j)) ∧ w.cell? ⟨b, off + j * 6 + 5, none⟩ = some (.bool (U j)) ∧ (Lit.int .i64 (N j)).wf = true

theorem open_elems {H : Type} {enc : TypeId × Value → H} {w : World} {spare : Nat → Bool} {held : Bool} {fuel : Nat} {a : Option Addr} {len cap : Nat} {x : DataW H × List MemPlace}
    (h : DataW.trod enc Ybgu.prog w 0 spare held fuel 22 [.slice a len cap] = some x) : IsElems w a len := by
  rcases open_slice Ybgu.underlying22 h with ⟨hcs, _⟩ | ⟨ad, l, c, m, n, D, Pl, hcs, _, hl, hm, hmm, _, hx⟩
  · simp at hcs
    exact Or.inl hcs.2.1
  simp at hcs
  obtain ⟨rfl, rfl, rfl⟩ := hcs
  by_cases h0 : len = 0
  · exact Or.inl h0
  have hlm : len ≤ m := by rw [hmm]; split <;> omega
  have each : ∀ i, i < len → ∃ q : Int × ByteArray × Int × Bool × Int, w.cell? (ad.add (i * 5)) = some (.int .u8 q.1) ∧ w.cell? (ad.add (i * 5 + 1)) = some (.string q.2.1) ∧ w.cell? (ad.add (i * 5 + 2)) = some (.int .i64 q.2.2.1) ∧
      w.cell? (ad.add (i * 5 + 3)) = some (.bool q.2.2.2.1) ∧ w.cell? (ad.add (i * 5 + 4)) = some (.int .i64 q.2.2.2.2) ∧ (Lit.int .u8 q.1).wf = true ∧ (Lit.int .i64 q.2.2.1).wf = true := by
    intro i hi
    obtain ⟨cs', h1, h2⟩ := hx i (by omega)
    rw [Ybgu.cells53] at h1
    obtain ⟨_, _, hcell⟩ := World.cells?_some h1
    obtain ⟨a', s, n', b, t, rfl, wa, wn⟩ := elem_in h2
    have k0 := hcell 0 (by omega)
    have k1 := hcell 1 (by omega)
    have k2 := hcell 2 (by omega)
    have k3 := hcell 3 (by omega)
    have k4 := hcell 4 (by omega)
    rw [add_add] at k0 k1 k2 k3 k4
    exact ⟨(a', s, n', b, t), by simpa using k0, by simpa using k1, by simpa using k2, by simpa using k3, by simpa using k4, wa, wn⟩
  obtain ⟨q, hq⟩ := choose_lt each
  obtain ⟨b, off, spot⟩ := ad
  have hs : spot = none := by simpa [Addr.add] using World.cell?_spot (hq 0 (by omega)).1
  subst hs
  refine Or.inr ⟨b, off, fun i => (q i).1, fun i => (q i).2.1, fun i => (q i).2.2.1, fun i => (q i).2.2.2.1, fun i => (q i).2.2.2.2, rfl, ?_, fun j hj => ?_⟩
  · have := (hq 0 (by omega)).1
    rw [add_plain] at this
    exact block_lt this
  · have := hq j hj
    simp only [add_plain] at this
    simp only [Nat.add_assoc]
    exact this

theorem open_entries {H : Type} {enc : TypeId × Value → H} {w : World} {spare : Nat → Bool} {held : Bool} {fuel : Nat} {a : Option Addr} {len cap : Nat} {x : DataW H × List MemPlace}
    (h : DataW.trod enc Ybgu.prog w 0 spare held fuel 23 [.slice a len cap] = some x) : IsEntries w a len := by
  rcases open_slice Ybgu.underlying23 h with ⟨hcs, _⟩ | ⟨ad, l, c, m, n, D, Pl, hcs, _, hl, hm, hmm, _, hx⟩
  · simp at hcs
    exact Or.inl hcs.2.1
  simp at hcs
  obtain ⟨rfl, rfl, rfl⟩ := hcs
  by_cases h0 : len = 0
  · exact Or.inl h0
  have hlm : len ≤ m := by rw [hmm]; split <;> omega
  have each : ∀ i, i < len → ∃ q : Int × Bool × Int × ByteArray × Int × Bool, w.cell? (ad.add (i * 6)) = some (.int .i64 q.1) ∧ w.cell? (ad.add (i * 6 + 1)) = some (.bool q.2.1) ∧ w.cell? (ad.add (i * 6 + 2)) = some (.int .i64 q.2.2.1) ∧
      w.cell? (ad.add (i * 6 + 3)) = some (.string q.2.2.2.1) ∧ w.cell? (ad.add (i * 6 + 4)) = some (.int .i64 q.2.2.2.2.1) ∧ w.cell? (ad.add (i * 6 + 5)) = some (.bool q.2.2.2.2.2) ∧ (Lit.int .i64 q.1).wf = true := by
    intro i hi
    obtain ⟨cs', h1, h2⟩ := hx i (by omega)
    rw [Ybgu.cells33] at h1
    obtain ⟨_, _, hcell⟩ := World.cells?_some h1
    obtain ⟨n', l', t, s, p, u, rfl, wn⟩ := entry_in h2
    have k0 := hcell 0 (by omega)
    have k1 := hcell 1 (by omega)
    have k2 := hcell 2 (by omega)
    have k3 := hcell 3 (by omega)
    have k4 := hcell 4 (by omega)
    have k5 := hcell 5 (by omega)
    rw [add_add] at k0 k1 k2 k3 k4 k5
    exact ⟨(n', l', t, s, p, u), by simpa using k0, by simpa using k1, by simpa using k2, by simpa using k3, by simpa using k4, by simpa using k5, wn⟩
  obtain ⟨q, hq⟩ := choose_lt each
  obtain ⟨b, off, spot⟩ := ad
  have hs : spot = none := by simpa [Addr.add] using World.cell?_spot (hq 0 (by omega)).1
  subst hs
  refine Or.inr ⟨b, off, fun i => (q i).1, fun i => (q i).2.1, fun i => (q i).2.2.1, fun i => (q i).2.2.2.1, fun i => (q i).2.2.2.2.1, fun i => (q i).2.2.2.2.2, rfl, ?_, fun j hj => ?_⟩
  · have := (hq 0 (by omega)).1
    rw [add_plain] at this
    exact block_lt this
  · have := hq j hj
    simp only [add_plain] at this
    simp only [Nat.add_assoc]
    exact this
end Go.Proofs.Yboneofku
