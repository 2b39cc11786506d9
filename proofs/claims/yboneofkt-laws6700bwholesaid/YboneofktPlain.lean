/-
  The plain side: distinct elements, marks.
-/
namespace Go.Proofs.Yboneofkt

/-- e is among f a .. f (a + j - 1). -/
def inP (f : Nat → Nat) (a j e : Nat) : Bool := (List.range j).any fun i => f (a + i) == e
theorem inP_zero (f : Nat → Nat) (a e : Nat) : inP f a 0 e = false := rfl
theorem inP_succ (f : Nat → Nat) (a j e : Nat) : inP f a (j + 1) e = (inP f a j e || f (a + j) == e) := by
  unfold inP
  rw [List.range_succ, List.any_append]
  simp
/-- how many distinct ones. -/
def dcn (f : Nat → Nat) (a : Nat) : Nat → Nat
  | 0 => 0
  | j + 1 => if inP f a j (f (a + j)) then dcn f a j else dcn f a j + 1
theorem dcn_succ (f : Nat → Nat) (a j : Nat) : dcn f a (j + 1) = if inP f a j (f (a + j)) then dcn f a j else dcn f a j + 1 := rfl
theorem dcn_le (f : Nat → Nat) (a : Nat) : ∀ j, dcn f a j ≤ j
  | 0 => Nat.le_refl _
  | j + 1 => by
    unfold dcn
    have := dcn_le f a j
    split <;> omega

/-- the marks after k gets. -/
def MK (L : Int) (f st ln : Nat → Nat) (mk : Nat → Int) : Nat → Nat → Int
  | 0, e => mk e
  | k + 1, e => if inP f (st k) (ln k) e then L + 1 + k else MK L f st ln mk k e
theorem MK_le {L : Int} {f st ln : Nat → Nat} {mk : Nat → Int} {E : Nat} (h : ∀ e, e < E → mk e ≤ L) : ∀ k e, e < E → MK L f st ln mk k e ≤ L + k
  | 0, e, he => by have := h e he; simpa [MK] using this
  | k + 1, e, he => by
    unfold MK
    have := MK_le (f := f) (st := st) (ln := ln) h k e he
    split <;> omega
theorem MK_ge {L : Int} {f st ln : Nat → Nat} {mk : Nat → Int} {E : Nat} {B : Int} (hL : B ≤ L) (h : ∀ e, e < E → B ≤ mk e) : ∀ k e, e < E → B ≤ MK L f st ln mk k e
  | 0, e, he => by have := h e he; simpa [MK] using this
  | k + 1, e, he => by
    unfold MK
    have := MK_ge (f := f) (st := st) (ln := ln) hL h k e he
    split <;> omega
/-- the marks in the midst of get g. -/
def MKp (L : Int) (f st ln : Nat → Nat) (mk : Nat → Int) (g j e : Nat) : Int := if inP f (st g) j e then L + 1 + g else MK L f st ln mk g e
theorem MKp_zero (L : Int) (f st ln : Nat → Nat) (mk : Nat → Int) (g : Nat) : MKp L f st ln mk g 0 = MK L f st ln mk g := by
  funext e
  simp [MKp, inP_zero]
theorem MKp_full (L : Int) (f st ln : Nat → Nat) (mk : Nat → Int) (g : Nat) : MKp L f st ln mk g (ln g) = MK L f st ln mk (g + 1) := rfl
theorem MKp_same {L : Int} {f st ln : Nat → Nat} {mk : Nat → Int} {g j : Nat} (h : inP f (st g) j (f (st g + j)) = true) : MKp L f st ln mk g (j + 1) = MKp L f st ln mk g j := by
  funext e
  unfold MKp
  rw [inP_succ]
  by_cases he : f (st g + j) = e
  · subst he; simp [h]
  · have : (f (st g + j) == e) = false := by simp [he]
    rw [this, Bool.or_false]
theorem MKp_new {L : Int} {f st ln : Nat → Nat} {mk : Nat → Int} {g j : Nat} (e : Nat) : MKp L f st ln mk g (j + 1) e = if e = f (st g + j) then L + 1 + g else MKp L f st ln mk g j e := by
  unfold MKp
  rw [inP_succ]
  by_cases he : e = f (st g + j)
  · subst he; simp
  · have : (f (st g + j) == e) = false := by simp [Ne.symm he]
    rw [this, Bool.or_false, if_neg he]
theorem MKp_le {L : Int} {f st ln : Nat → Nat} {mk : Nat → Int} {E : Nat} (h : ∀ e, e < E → mk e ≤ L) (g j e : Nat) (he : e < E) : MKp L f st ln mk g j e ≤ L + 1 + g := by
  unfold MKp
  have := MK_le (f := f) (st := st) (ln := ln) h g e he
  split <;> omega
theorem MKp_ge {L : Int} {f st ln : Nat → Nat} {mk : Nat → Int} {E : Nat} {B : Int} (hL : B ≤ L) (h : ∀ e, e < E → B ≤ mk e) (g j e : Nat) (he : e < E) : B ≤ MKp L f st ln mk g j e := by
  unfold MKp
  have := MK_ge (f := f) (st := st) (ln := ln) hL h g e he
  split <;> omega
theorem MKp_eq {L : Int} {f st ln : Nat → Nat} {mk : Nat → Int} {E : Nat} (h : ∀ e, e < E → mk e ≤ L) (g j e : Nat) (he : e < E) : MKp L f st ln mk g j e = L + 1 + g ↔ inP f (st g) j e = true := by
  unfold MKp
  have := MK_le (f := f) (st := st) (ln := ln) h g e he
  constructor
  · intro hh
    by_cases hi : inP f (st g) j e = true
    · exact hi
    · rw [if_neg hi] at hh
      omega
  · intro hi
    rw [if_pos hi]

/-- the sizes in the midst of get g. -/
def SZp (f st ln : Nat → Nat) (g j i : Nat) : Nat := if i < g then dcn f (st i) (ln i) else if i = g then dcn f (st g) j else 0
end Go.Proofs.Yboneofkt
