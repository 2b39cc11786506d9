/-
  Rows of cells; frames; the small functions.
-/
import Derived.Test.YboneofktPdq
import Derived.OwnWalk
import Derived.Deep.OwnRows
namespace Go.Proofs.Yboneofkt
open Go.RowKit

/-- block b begins with the n cells f. -/
def Rw (w : World) (b T n : Nat) (f : Nat → Value) : Prop := ∃ c, w.heap[b]? = some (.cells c T) ∧ n ≤ c.size ∧ ∀ i, i < n → c[i]? = some (f i)

section
variable {w w' : World} {b T n : Nat} {f g : Nat → Value}
theorem Rw.cell (h : Rw w b T n f) {i : Nat} (hi : i < n) : w.cell? ⟨b, i, none⟩ = some (f i) := by
  obtain ⟨c, hb, _, hc⟩ := h
  simp [World.cell?, hb, hc i hi]
theorem Rw.frozen (h : Rw w b T n f) (i : Nat) : w.frozen? ⟨b, i, none⟩ = false := by
  obtain ⟨c, hb, _, _⟩ := h
  simp [World.frozen?, hb]
theorem Rw.lt (h : Rw w b T n f) : b < w.heap.size := by
  obtain ⟨c, hb, _, _⟩ := h
  exact (Array.getElem?_eq_some_iff.1 hb).1
theorem Rw.congr (h : Rw w b T n f) (e : ∀ i, i < n → f i = g i) : Rw w b T n g := by
  obtain ⟨c, hb, hn, hc⟩ := h
  exact ⟨c, hb, hn, fun i hi => by rw [hc i hi, e i hi]⟩
theorem Rw.of_block (h : Rw w b T n f) (e : w'.heap[b]? = w.heap[b]?) : Rw w' b T n f := by
  obtain ⟨c, hb, hn, hc⟩ := h
  exact ⟨c, e.trans hb, hn, hc⟩
theorem Rw.set (h : Rw w b T n f) (i : Nat) (v : Value) : Rw (w.setCell ⟨b, i, none⟩ v) b T n (fun j => if j = i then v else f j) := by
  obtain ⟨c, hb, hn, hc⟩ := h
  refine ⟨c.setIfInBounds i v, ?_, by simpa using hn, fun j hj => ?_⟩
  · simp [World.setCell, Array.getElem?_modify, hb]
  · rw [Array.getElem?_setIfInBounds]
    by_cases e : j = i
    · subst e
      have : j < c.size := by omega
      simp [this]
    · rw [if_neg (fun h => e h.symm)]
      show c[j]? = some (if j = i then v else f j)
      rw [if_neg e]
      exact hc j hj
theorem Rw.setOther (h : Rw w b T n f) {a : Addr} (ha : b ≠ a.block) (v : Value) : Rw (w.setCell a v) b T n f := h.of_block (Below.heap_setCell _ _ _ _ ha)
theorem Rw.alloc (h : Rw w b T n f) (o : Obj) : Rw (w.alloc o) b T n f := h.of_block (Below.heap_alloc _ _ _ h.lt)
theorem Rw.drew (h : Rw w b T n f) : Rw w.drew b T n f := h
theorem Rw.below {B : Nat} (h : Rw w b T n f) (hb : Below B w w') (hB : b < B) : Rw w' b T n f := h.of_block (hb.block b hB)
theorem Rw.ofIs (h : w.rowIs b T n f) : Rw w b T n f := by
  obtain ⟨c, hb, hn, hc⟩ := h
  exact ⟨c, hb, by omega, hc⟩
theorem Rw.take (h : Rw w b T n f) {m : Nat} (hm : m ≤ n) : Rw w b T m f := by
  obtain ⟨c, hb, hn, hc⟩ := h
  exact ⟨c, hb, by omega, fun i hi => hc i (by omega)⟩
end

/-- all but the blocks X as they were. -/
structure Kp (X : List Nat) (w w' : World) : Prop where
  os : w'.os = w.os
  tape : w'.tape = w.tape
  output : w'.output = w.output
  size : w.heap.size ≤ w'.heap.size
  block : ∀ k, k < w.heap.size → k ∉ X → w'.heap[k]? = w.heap[k]?
theorem Kp.refl (X : List Nat) (w : World) : Kp X w w := ⟨rfl, rfl, rfl, Nat.le_refl _, fun _ _ _ => rfl⟩
theorem Kp.trans {X : List Nat} {a b c : World} (h : Kp X a b) (k : Kp X b c) : Kp X a c :=
  ⟨k.os.trans h.os, k.tape.trans h.tape, k.output.trans h.output, Nat.le_trans h.size k.size, fun i hi hx => (k.block i (Nat.lt_of_lt_of_le hi h.size) hx).trans (h.block i hi hx)⟩
theorem Kp.below {X : List Nat} {a w w' : World} (h : Kp X a w) (hb : Below w.heap.size w w') : Kp X a w' :=
  h.trans ⟨hb.os, hb.tape, hb.output, hb.size, fun k hk _ => hb.block k hk⟩
theorem Kp.setCell {X : List Nat} {a w : World} (h : Kp X a w) {p : Addr} (hp : p.block ∈ X) (u : Value) : Kp X a (w.setCell p u) :=
  ⟨h.os, h.tape, h.output, by simpa [World.setCell] using h.size, fun k hk hx => by rw [Below.heap_setCell w p u k (fun e => hx (by rw [e]; exact hp))]; exact h.block k hk hx⟩
theorem Kp.mono {X Y : List Nat} {a w : World} (h : Kp X a w) (hxy : ∀ k, k < a.heap.size → k ∈ X → k ∈ Y) : Kp Y a w :=
  ⟨h.os, h.tape, h.output, h.size, fun k hk hx => h.block k hk (fun e => hx (hxy k hk e))⟩
theorem Rw.kp {X : List Nat} {w w' : World} {b T n : Nat} {f : Nat → Value} (h : Rw w b T n f) (k : Kp X w w') (hx : b ∉ X) : Rw w' b T n f := h.of_block (k.block b h.lt hx)
theorem Kp.toBelow {X : List Nat} {w w' : World} {B : Nat} (h : Kp X w w') (hB : B ≤ w.heap.size) (hx : ∀ k ∈ X, B ≤ k) : Below B w w' :=
  ⟨h.os, h.tape, h.output, h.size, fun k hk => h.block k (Nat.lt_of_lt_of_le hk hB) (fun e => Nat.lt_irrefl _ (Nat.lt_of_lt_of_le hk (hx k e)))⟩
theorem Only.kp {blk : Nat} {w w' : World} (h : Only blk w w') : Kp [blk] w w' := ⟨h.os, h.tape, h.output, h.size, fun k hk hx => h.block k hk (by simpa using hx)⟩

/-! ### newMark, Compare -/
theorem mark10 (xb : Nat) (v : Int) (w : World) (h1 : -4611686018427387904 ≤ v) (h2 : v ≤ 4611686018427387904) (hc : w.cell? ⟨xb, 16, none⟩ = some (.int .i64 v)) (hf : w.frozen? ⟨xb, 16, none⟩ = false) :
    Calls Ybgt.prog 10 #[.pointer (some ⟨xb, 0, none⟩)] w fun e w' => e = .returned (.int .i64 (v + 1)) ∧ w' = w.setCell ⟨xb, 16, none⟩ (.int .i64 (v + 1)) := by
  go_enter Ybgt.func10, Ybgt.ntmps10
  go_wp2
  go_ret
  exact ⟨rfl, rfl⟩

/-- cmp.Compare. -/
def cmpI (x y : Int) : Int := if x < y then -1 else if y < x then 1 else 0
theorem compare14 (x y : Int) (w : World) : Calls Ybgt.prog 14 #[.int .i32 x, .int .i32 y] w fun e w' => e = .returned (.int .i64 (cmpI x y)) ∧ w' = w := by
  unfold cmpI
  by_cases h1 : x < y
  · rw [if_pos h1]
    go_enter Ybgt.func14, Ybgt.ntmps14
    go_wp2_with (go_at_call 18; refine (nan18 _ _).mono ?_; rintro e w' ⟨rfl, rfl⟩)
    go_ret
    exact ⟨rfl, rfl⟩
  · rw [if_neg h1]
    by_cases h2 : y < x
    · rw [if_pos h2]
      go_enter Ybgt.func14, Ybgt.ntmps14
      go_wp2_with (go_at_call 18; refine (nan18 _ _).mono ?_; rintro e w' ⟨rfl, rfl⟩)
      go_ret
      exact ⟨rfl, rfl⟩
    · rw [if_neg h2]
      go_enter Ybgt.func14, Ybgt.ntmps14
      go_wp2_with (go_at_call 18; refine (nan18 _ _).mono ?_; rintro e w' ⟨rfl, rfl⟩)
      go_ret
      exact ⟨rfl, rfl⟩

/-- the closure of newContents. -/
theorem closure13 (cb ct zb m cap i j : Nat) (x y : Int) (w : World) (hi : i < m) (hj : j < m) (h0 : w.cell? ⟨cb, 0, none⟩ = some (.pointer (some ⟨ct, 0, none⟩))) (h1 : w.cell? ⟨ct, 3, none⟩ = some (.slice (some ⟨zb, 0, none⟩) m cap))
    (hx : w.cell? ⟨zb, i, none⟩ = some (.int .i32 x)) (hy : w.cell? ⟨zb, j, none⟩ = some (.int .i32 y)) :
    Calls Ybgt.prog 13 #[.int .i32 i, .int .i32 j, .pointer (some ⟨cb, 0, none⟩)] w fun e w' => e = .returned (.int .i64 (cmpI y x)) ∧ ∃ q, w' = w.drewN q := by
  go_enter Ybgt.func13, Ybgt.ntmps13
  go_wp2
  go_quiet (first | (go_at_call 14; refine Calls.quiet_of_same (compare14 _ _ _)))
  go_wp2
  go_ret
  exact ⟨rfl, _, rfl⟩

/-- what resultOf answers. -/
def Res11 (rb st en capr : Nat) (w : World) (e : Ending) (w' : World) : Prop := ∃ off q, (off = st ∨ en = st) ∧ e = .returned (.slice (some ⟨rb, off, none⟩) (en - st) (capr - st)) ∧ w' = w.drewN q
/-- resultOf. -/
theorem result11 (xb lb gb rb g m capg n capr st en : Nat) (w : World) (hg : g < m) (h1 : st ≤ en) (h2 : en ≤ n) (hcr : n ≤ capr)
    (c0 : w.cell? ⟨xb, 0, none⟩ = some (.pointer (some ⟨lb, 0, none⟩))) (c4 : w.cell? ⟨lb, 4, none⟩ = some (.slice (some ⟨gb, 0, none⟩) m capg)) (c5 : w.cell? ⟨lb, 5, none⟩ = some (.slice (some ⟨rb, 0, none⟩) n capr))
    (cs : w.cell? ⟨gb, g * 6 + 3, none⟩ = some (.int .i64 st)) (ce : w.cell? ⟨gb, g * 6 + 4, none⟩ = some (.int .i64 en)) :
    Calls Ybgt.prog 11 #[.pointer (some ⟨xb, 0, none⟩), .int .i32 g] w (Res11 rb st en capr w) := by
  go_enter Ybgt.func11, Ybgt.ntmps11
  go_wp2
  go_quiet (fail)
  go_wp2
  all_goals go_ret
  · exact ⟨0, _, .inr (by omega), by rw [Nat.sub_self]; rfl, rfl⟩
  · exact ⟨st, _, .inl rfl, rfl, rfl⟩
end Go.Proofs.Yboneofkt
