/-
  slices.SortFunc at []stamp, by the shelf's contract.
-/
import Derived.Test.YbulkehrqMax
import Derived.Test.YbulkehrqShelfS
namespace Go.Proofs.Ybulkehrq
open Go.RowKit Go.Shelf Go.Lib

/-- what the closure answers. -/
def cfSt (x y : Int × Int) : Int := if x.1 < y.1 then -1 else if y.1 < x.1 then 1 else 0

theorem ltSt (x y : Int × Int) : Go.Proofs.ltOf cfSt x y = decide (x.1 < y.1) := by
  unfold Go.Proofs.ltOf cfSt
  by_cases h1 : x.1 < y.1
  · simp [h1]
  · by_cases h2 : y.1 < x.1 <;> simp [h1, h2]

theorem swoSt : Go.Sort.SWO (Go.Proofs.ltOf cfSt) := by
  constructor
  · intro x; rw [ltSt]; simp
  · intro x y z h1 h2; rw [ltSt] at *; simp at *; omega
  · intro x y z h1 h2; rw [ltSt] at *; simp at *; omega

set_option maxHeartbeats 400000 in
theorem closure9 (x y : Int × Int) (W : World) : Calls Yba.prog 9 #[.agg #[.int .i64 x.1, .int .i64 x.2], .agg #[.int .i64 y.1, .int .i64 y.2]] W fun e w' => e = .returned (.int .i64 (cfSt x y)) ∧ ∃ q os', w' = Go.Sort.grow (W.drewN q) os' := by
  obtain ⟨x1, x2⟩ := x
  obtain ⟨y1, y2⟩ := y
  unfold cfSt
  by_cases h1 : x1 < y1
  · rw [if_pos h1]
    go_enter Yba.func9, Yba.ntmps9
    go_wp2
    go_ret
    exact ⟨rfl, 0, _, by rw [Go.Sort.alloc_eq_grow, Go.Sort.alloc_eq_grow, Go.Sort.grow_grow]; rfl⟩
  · rw [if_neg h1]
    by_cases h2 : y1 < x1
    · rw [if_pos h2]
      go_enter Yba.func9, Yba.ntmps9
      go_wp2
      go_ret
      exact ⟨rfl, 0, _, by rw [Go.Sort.alloc_eq_grow, Go.Sort.alloc_eq_grow, Go.Sort.grow_grow]; rfl⟩
    · rw [if_neg h2]
      go_enter Yba.func9, Yba.ntmps9
      go_wp2
      go_ret
      exact ⟨rfl, 0, _, by rw [Go.Sort.alloc_eq_grow, Go.Sort.alloc_eq_grow, Go.Sort.grow_grow]; rfl⟩

theorem cmpLays9 (blk off size : Nat) (w : World) : CmpLays Yba.prog 9 #[] encSt 2 cfSt blk off size w :=
  fun _ _ _ _ x y => closure9 x y _

theorem stCells_get (l : List (Int × Int)) (t : Nat) (h : t < l.length * 2) : (stCells l)[t]? = some ((encSt (l.toArray)[t / 2]!)[t % 2]!) := by
  induction l generalizing t with
  | nil => simp at h
  | cons x l ih =>
    match t, h with
    | 0, _ => simp [stCells, encSt]
    | 1, _ => simp [stCells, encSt]
    | t + 2, h =>
      have := ih t (by simp at h; omega)
      have e : (t + 2) / 2 = t / 2 + 1 := by omega
      have e' : (t + 2) % 2 = t % 2 := by omega
      rw [e, e']
      simp only [stCells, List.flatMap_cons, encSt] at this ⊢
      simpa using this

theorem below_sortWorldK (enc : Int × Int → List Value) (k : Nat) (w : World) (blk off m : Nat) (d : Array (Int × Int)) (os : Array Obj) (B : Nat) (hB : B ≤ blk) (hw : blk < w.heap.size) : Below B w (sortWorldK enc k w blk off m d os) := by
  refine ⟨rfl, rfl, rfl, size_sortWorldK_c enc k w blk off m d os, fun i hi => ?_⟩
  unfold sortWorldK
  rw [Go.Sort.heap_grow_old _ _ (by rw [Go.Sort.size_putRowK]; show i < w.heap.size; omega)]
  show ((w.heap.modify blk _))[i]? = w.heap[i]?
  rw [Array.getElem?_modify, if_neg (by omega)]

theorem sort_any (base blk n cap : Nat) (l : List (Int × Int)) (W : World) (hl : l.length = n) (hn : n ≤ 5000) (hown : W.ownsRow base 39 2 (.slice (some ⟨blk, 0, none⟩) n cap) n (stCells l)) :
    Calls Yba.prog 8 #[.slice (some ⟨blk, 0, none⟩) n cap, .func (.func 9) #[] #[]] W fun e w' => e = .returned (.tuple #[]) ∧ ∃ D : List (Int × Int), D.Perm l ∧ (D.Pairwise fun x y => x.1 ≤ y.1) ∧
      (∀ j, j < n → w'.cell? ⟨blk, j * 2, none⟩ = some (.int .i64 (D[j]!).1) ∧ w'.cell? ⟨blk, j * 2 + 1, none⟩ = some (.int .i64 (D[j]!).2)) ∧ ∀ B, B ≤ blk → Below B W w' := by
  subst hl
  have hblk := (hown.lt blk rfl).2
  have hH : Go.Sort.HoldsK encSt 2 W blk 0 l.toArray := by
    intro t ht
    rw [Go.Sort.size_flatK] at ht
    have ht' : t < l.length * 2 := by simpa using ht
    rw [Go.Sort.get_flatK _ _ _ _ ht, Nat.zero_add]
    exact ⟨(hown.cellAt t ht').trans (stCells_get l t ht'), hown.frozenAt t⟩
  have eg : ∀ args w, (callFunc 9 args).run Yba.prog w = .ok (.enter 9 args) w := enters_of Yba.func9 (by kernel_rfl) rfl
  have hcon := AnyQ.slices_SortFunc Yba.sortStamp 2 Yba.isAgg39 Yba.sizeOf39 encSt (fun _ => rfl) (fun x v hv => by simp [encSt] at hv; rcases hv with rfl | rfl <;> rfl) cfSt swoSt 9 #[] blk 0 cap l.toArray W eg (cmpLays9 blk 0 _ W) hH hblk (by simp; omega)
  rw [List.size_toArray] at hcon
  refine Calls.mono (show Calls Yba.prog 8 _ _ _ from hcon) ?_
  rintro e w' ⟨rfl, d', m, os, ⟨hs, _, hp⟩, hso, rfl⟩
  have hs' : d'.size = l.length := by simpa using hs
  have hperm : d'.toList.Perm l := by
    rw [← hs', Array.extract_size, hs'] at hp
    simpa using hp
  refine ⟨rfl, d'.toList, hperm, ?_, fun j hj => ?_, fun B hB => below_sortWorldK _ _ _ _ _ _ _ _ B hB hblk⟩
  · rw [List.pairwise_iff_getElem]
    intro i j hi hj hij
    have hi' : i < d'.size := by simpa using hi
    have hj' : j < d'.size := by simpa using hj
    have := hso i j (Nat.zero_le _) hij (by omega)
    rw [ltSt, getElem!_pos d' j hj', getElem!_pos d' i hi'] at this
    simp at this ⊢
    exact this
  · have hh := holdsK_sortWorldK_c encSt 2 W blk 0 l.toArray d' m os hH hblk hs
    have c0 := (hh.cell (i := j) (c := 0) (by omega) (by omega)).1
    have c1 := (hh.cell (i := j) (c := 1) (by omega) (by omega)).1
    have e : (d'.toList)[j]! = d'[j]! := by rw [getElem!_pos d' j (by omega), getElem!_pos d'.toList j (by simp; omega)]; rfl
    rw [e]
    simp only [Nat.zero_add, Nat.add_zero] at c0 c1
    exact ⟨c0.trans (by simp [encSt]), c1.trans (by simp [encSt])⟩

theorem sort_none (p : Option Addr) (cap : Nat) (fv : Value) (W : World) : Calls Yba.prog 8 #[.slice p 0 cap, fv] W fun e w' => e = .returned (.tuple #[]) ∧ w' = W :=
  AnyF.slices_SortFunc_none Yba.sortStamp p cap fv W

end Go.Proofs.Ybulkehrq
