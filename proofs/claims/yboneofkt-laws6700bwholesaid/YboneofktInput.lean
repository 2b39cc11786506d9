/-
  The arguments opened: a slice of bytes, a slice of drawn gets of three cells each, a slice of int32 numbers.
-/
import Derived.Test.YboneofktRows
import Derived.WalkKit
import Derived.ProofKit
import Derived.OpenShut
import Derived.ShutString
import Derived.ChangeOld
import Derived.Below
import Derived.Deep.Slices
namespace Go.Proofs.Yboneofkt
open Go.ChangeShapes Go.WideShapes Go.ChangeAt Go.RowKit Go.Deep

theorem Ybgt.cells5 : Ybgt.prog.cellsOf 5 = 1 := by kernel_rfl
theorem Ybgt.cells21 : Ybgt.prog.cellsOf 21 = 1 := by kernel_rfl
theorem Ybgt.cells28 : Ybgt.prog.cellsOf 28 = 3 := by kernel_rfl

theorem u8_in {x : Int} (h : (Lit.int .u8 x).wf = true) : 0 ≤ x ∧ x ≤ 255 := by
  simp [Lit.wf, IntKind.min, IntKind.max, IntKind.signed, IntKind.bits] at h
  omega
theorem i32_in {x : Int} (h : (Lit.int .i32 x).wf = true) : -2147483648 ≤ x ∧ x ≤ 2147483647 := by
  simp [Lit.wf, IntKind.min, IntKind.max, IntKind.signed, IntKind.bits] at h
  omega

theorem cell_lt {w : World} {b o : Nat} {v : Value} (h : w.cell? ⟨b, o, none⟩ = some v) : b < w.heap.size := by
  by_cases hb : b < w.heap.size
  · exact hb
  · simp [World.cell?, hb] at h

set_option maxRecDepth 100000 in
theorem get_in {H : Type} {enc : TypeId × Value → H} {w : World} {base : Nat} {spare : Nat → Bool} {held : Bool} {fuel : Nat} {cs : List Value} {x : DataW H × List MemPlace}
    (h : DataW.trod enc Ybgt.prog w base spare held fuel 28 cs = some x) :
    ∃ (a b c : Int), cs = [.int .u8 a, .int .u8 b, .int .u8 c] ∧ (Lit.int .u8 a).wf = true ∧ (Lit.int .u8 b).wf = true ∧ (Lit.int .u8 c).wf = true := by
  obtain ⟨xs, n, _, _, hlen, hxl, hf⟩ := DataW.trod_struct Ybgt.underlying28 h
  rw [Ybgt.cells28] at hlen
  match cs, hlen with
  | [c0, c1, c2], _ =>
    have hx : ∀ i, i < 3 → ∃ y, xs[i]? = some y := fun i hi => ⟨_, List.getElem?_eq_getElem (by simp at hxl; omega)⟩
    obtain ⟨y0, e0⟩ := hx 0 (by omega)
    obtain ⟨y1, e1⟩ := hx 1 (by omega)
    obtain ⟨y2, e2⟩ := hx 2 (by omega)
    have g0 := (hf 0 _ rfl).trans e0
    have g1 := (hf 1 _ rfl).trans e1
    have g2 := (hf 2 _ rfl).trans e2
    simp [Ybgt.cells5] at g0 g1 g2
    obtain ⟨z0, f0, _, w0⟩ := DataW.trod_int Ybgt.underlying5 g0
    obtain ⟨z1, f1, _, w1⟩ := DataW.trod_int Ybgt.underlying5 g1
    obtain ⟨z2, f2, _, w2⟩ := DataW.trod_int Ybgt.underlying5 g2
    simp at f0 f1 f2
    subst f0 f1 f2
    exact ⟨z0, z1, z2, rfl, w0, w1, w2⟩

/-- what the walk is told of the bytes. -/
def IsBytes (w : World) (a : Option Addr) (len : Nat) : Prop :=
  ∃ (b off : Nat) (V : Nat → Nat), (0 < len → a = some ⟨b, off, none⟩ ∧ b < w.heap.size) ∧ (∀ j, j < len → w.cell? ⟨b, off + j, none⟩ = some (.int .u8 (V j : Int))) ∧ ∀ j, V j ≤ 255
/-- what the walk is told of the numbers. -/
def IsNums (w : World) (a : Option Addr) (len : Nat) : Prop :=
  ∃ (b off : Nat) (V : Nat → Int), (0 < len → a = some ⟨b, off, none⟩ ∧ b < w.heap.size) ∧ (∀ j, j < len → w.cell? ⟨b, off + j, none⟩ = some (.int .i32 (V j))) ∧ ∀ j, -2147483648 ≤ V j ∧ V j ≤ 2147483647
/-- what the walk is told of the gets. -/
def IsGets (w : World) (a : Option Addr) (len : Nat) : Prop :=
  ∃ (b off : Nat) (A B C : Nat → Nat), (0 < len → a = some ⟨b, off, none⟩ ∧ b < w.heap.size) ∧ (∀ j, j < len → w.cell? ⟨b, off + j * 3, none⟩ = some (.int .u8 (A j : Int)) ∧ w.cell? ⟨b, off + j * 3 + 1, none⟩ = some (.int .u8 (B j : Int)) ∧ w.cell? ⟨b, off + j * 3 + 2, none⟩ = some (.int .u8 (C j : Int))) ∧ ∀ j, A j ≤ 255 ∧ B j ≤ 255 ∧ C j ≤ 255

theorem open_bytes {H : Type} {enc : TypeId × Value → H} {w : World} {spare : Nat → Bool} {held : Bool} {fuel : Nat} {a : Option Addr} {len cap : Nat} {x : DataW H × List MemPlace}
    (h : DataW.trod enc Ybgt.prog w 0 spare held fuel 22 [.slice a len cap] = some x) : IsBytes w a len := by
  have none0 : len = 0 → IsBytes w a len := fun e => ⟨0, 0, fun _ => 0, fun h => by omega, fun j hj => by omega, fun _ => by simp⟩
  rcases open_slice Ybgt.underlying22 h with ⟨hcs, _⟩ | ⟨ad, l, c, m, n, D, Pl, hcs, _, hl, hm, hmm, _, hx⟩
  · simp at hcs
    exact none0 hcs.2.1
  simp at hcs
  obtain ⟨rfl, rfl, rfl⟩ := hcs
  by_cases h0 : len = 0
  · exact none0 h0
  have hlm : len ≤ m := by rw [hmm]; split <;> omega
  have each : ∀ i, i < len → ∃ q : Int, w.cell? (ad.add i) = some (.int .u8 q) ∧ (Lit.int .u8 q).wf = true := by
    intro i hi
    obtain ⟨cs', h1, h2⟩ := hx i (by omega)
    rw [Ybgt.cells5] at h1
    obtain ⟨_, _, hcell⟩ := World.cells?_some h1
    obtain ⟨z, f, _, wf⟩ := DataW.trod_int Ybgt.underlying5 h2
    subst f
    have k0 := hcell 0 (by omega)
    rw [add_add] at k0
    exact ⟨z, by simpa using k0, wf⟩
  obtain ⟨q, hq⟩ := choose_lt each
  obtain ⟨b, off, spot⟩ := ad
  have hs : spot = none := by simpa [Addr.add] using World.cell?_spot (hq 0 (by omega)).1
  subst hs
  refine ⟨b, off, fun i => if i < len then (q i).toNat else 0, fun _ => ⟨rfl, ?_⟩, fun j hj => ?_, fun j => ?_⟩
  · have := (hq 0 (by omega)).1
    rw [add_plain] at this
    exact cell_lt this
  · have h1 := (hq j hj).1
    have h2 := u8_in (hq j hj).2
    simp only [add_plain] at h1
    rw [h1]
    simp only [hj, if_true]
    congr 2
    omega
  · by_cases hj : j < len
    · have h2 := u8_in (hq j hj).2
      simp only [hj, if_true]
      omega
    · simp [hj]

theorem open_nums {H : Type} {enc : TypeId × Value → H} {w : World} {spare : Nat → Bool} {held : Bool} {fuel : Nat} {a : Option Addr} {len cap : Nat} {x : DataW H × List MemPlace}
    (h : DataW.trod enc Ybgt.prog w 0 spare held fuel 24 [.slice a len cap] = some x) : IsNums w a len := by
  have none0 : len = 0 → IsNums w a len := fun e => ⟨0, 0, fun _ => 0, fun h => by omega, fun j hj => by omega, fun _ => by simp⟩
  rcases open_slice Ybgt.underlying24 h with ⟨hcs, _⟩ | ⟨ad, l, c, m, n, D, Pl, hcs, _, hl, hm, hmm, _, hx⟩
  · simp at hcs
    exact none0 hcs.2.1
  simp at hcs
  obtain ⟨rfl, rfl, rfl⟩ := hcs
  by_cases h0 : len = 0
  · exact none0 h0
  have hlm : len ≤ m := by rw [hmm]; split <;> omega
  have each : ∀ i, i < len → ∃ q : Int, w.cell? (ad.add i) = some (.int .i32 q) ∧ (Lit.int .i32 q).wf = true := by
    intro i hi
    obtain ⟨cs', h1, h2⟩ := hx i (by omega)
    rw [Ybgt.cells21] at h1
    obtain ⟨_, _, hcell⟩ := World.cells?_some h1
    obtain ⟨z, f, _, wf⟩ := DataW.trod_int Ybgt.underlying21 h2
    subst f
    have k0 := hcell 0 (by omega)
    rw [add_add] at k0
    exact ⟨z, by simpa using k0, wf⟩
  obtain ⟨q, hq⟩ := choose_lt each
  obtain ⟨b, off, spot⟩ := ad
  have hs : spot = none := by simpa [Addr.add] using World.cell?_spot (hq 0 (by omega)).1
  subst hs
  refine ⟨b, off, fun i => if i < len then q i else 0, fun _ => ⟨rfl, ?_⟩, fun j hj => ?_, fun j => ?_⟩
  · have := (hq 0 (by omega)).1
    rw [add_plain] at this
    exact cell_lt this
  · have h1 := (hq j hj).1
    simp only [add_plain] at h1
    rw [h1]
    simp only [hj, if_true]
  · by_cases hj : j < len
    · have h2 := i32_in (hq j hj).2
      simp only [hj, if_true]
      omega
    · simp [hj]

theorem open_gets {H : Type} {enc : TypeId × Value → H} {w : World} {spare : Nat → Bool} {held : Bool} {fuel : Nat} {a : Option Addr} {len cap : Nat} {x : DataW H × List MemPlace}
    (h : DataW.trod enc Ybgt.prog w 0 spare held fuel 23 [.slice a len cap] = some x) : IsGets w a len := by
  have none0 : len = 0 → IsGets w a len := fun e => ⟨0, 0, fun _ => 0, fun _ => 0, fun _ => 0, fun h => by omega, fun j hj => by omega, fun _ => by simp⟩
  rcases open_slice Ybgt.underlying23 h with ⟨hcs, _⟩ | ⟨ad, l, c, m, n, D, Pl, hcs, _, hl, hm, hmm, _, hx⟩
  · simp at hcs
    exact none0 hcs.2.1
  simp at hcs
  obtain ⟨rfl, rfl, rfl⟩ := hcs
  by_cases h0 : len = 0
  · exact none0 h0
  have hlm : len ≤ m := by rw [hmm]; split <;> omega
  have each : ∀ i, i < len → ∃ q : Int × Int × Int, w.cell? (ad.add (i * 3)) = some (.int .u8 q.1) ∧ w.cell? (ad.add (i * 3 + 1)) = some (.int .u8 q.2.1) ∧ w.cell? (ad.add (i * 3 + 2)) = some (.int .u8 q.2.2) ∧ (Lit.int .u8 q.1).wf = true ∧ (Lit.int .u8 q.2.1).wf = true ∧ (Lit.int .u8 q.2.2).wf = true := by
    intro i hi
    obtain ⟨cs', h1, h2⟩ := hx i (by omega)
    rw [Ybgt.cells28] at h1
    obtain ⟨_, _, hcell⟩ := World.cells?_some h1
    obtain ⟨x, y, z, rfl, wx, wy, wz⟩ := get_in h2
    have k0 := hcell 0 (by omega)
    have k1 := hcell 1 (by omega)
    have k2 := hcell 2 (by omega)
    rw [add_add] at k0 k1 k2
    exact ⟨(x, y, z), by simpa using k0, by simpa using k1, by simpa using k2, wx, wy, wz⟩
  obtain ⟨q, hq⟩ := choose_lt each
  obtain ⟨b, off, spot⟩ := ad
  have hs : spot = none := by simpa [Addr.add] using World.cell?_spot (hq 0 (by omega)).1
  subst hs
  refine ⟨b, off, fun i => if i < len then (q i).1.toNat else 0, fun i => if i < len then (q i).2.1.toNat else 0, fun i => if i < len then (q i).2.2.toNat else 0, fun _ => ⟨rfl, ?_⟩, fun j hj => ?_, fun j => ?_⟩
  · have := (hq 0 (by omega)).1
    rw [add_plain] at this
    exact cell_lt this
  · obtain ⟨h1, h2, h3, w1, w2, w3⟩ := hq j hj
    have v1 := u8_in w1
    have v2 := u8_in w2
    have v3 := u8_in w3
    simp only [add_plain] at h1 h2 h3
    simp only [hj, if_true, Nat.add_assoc]
    refine ⟨?_, ?_, ?_⟩
    · rw [h1]; congr 2; omega
    · rw [h2]; congr 2; omega
    · rw [h3]; congr 2; omega
  · by_cases hj : j < len
    · obtain ⟨h1, h2, h3, w1, w2, w3⟩ := hq j hj
      have v1 := u8_in w1
      have v2 := u8_in w2
      have v3 := u8_in w3
      simp only [hj, if_true]
      omega
    · simp [hj]
end Go.Proofs.Yboneofkt
