/-
  slices.Clone and slices.Equal at []uint64.
-/
import Derived.Test.YbulkehseHold
import Derived.Test.YbulkehseShelf
namespace Go.Proofs.Ybulkehse
open Go.RowKit Go.Shelf Go.Lib

theorem Yba.info27 : (Yba.prog.info? 27).map (fun i => (i.zero, i.size, i.bytes)) = some (some (.int .u64 0), 1, 8) := by kernel_rfl

/-- the answers: none, or so many numbers in a row. -/
def Jv (w : World) (ja : Option Addr) (n : Nat) (z : Nat → Int) : Prop :=
  n = 0 ∨ (1 ≤ n ∧ ∃ b off, ja = some ⟨b, off, none⟩ ∧ b < w.heap.size ∧ ∀ j, j < n → w.cell? ⟨b, off + j, none⟩ = some (.int .u64 (z j)))

set_option maxHeartbeats 400000 in
theorem clone_empty (a : Addr) (c : Nat) (w : World) :
    Calls Yba.prog 4 #[.slice (some a) 0 c] w fun e w' => ∃ g kc, e = .returned (.slice (some ⟨g, 0, none⟩) 0 kc) ∧ Below w.heap.size w w' := by
  obtain ⟨i0, hi, hz0, hz1, hz2⟩ := info_parts Yba.info27
  have q22 : ∀ (W : World) (n' c' : Nat), (binOp .eql 23 (.slice (some a) 0 c) (.slice none n' c')).run Yba.prog W = .ok (.bool false) W := fun W n' c' => Lib.run_eql_slice_nil W _ _ _ _ _ _ _ Yba.underlying23
  go_enter Yba.func4, Yba.ntmps4
  go_wp2_with (at_builtin; refine wpList_append_own _ rfl _ _ 23 rfl w.heap.size 27 i0 (.int .u64 0) 1 8 Yba.underlying23 hi hz0 hz1 hz2 rfl (by decide) _ _ _ rfl (World.ownsRow_made w #[] 0 (Nat.le_refl _) (Nat.zero_le _) (by simp)) a 0 c [] rfl rfl ?qc2 ?qc3 ?qc4 ?qc5 ?qc6 ?_)
  case qc2 => intro j u hj; simp at hj
  case qc3 => intro u hu; simp at hu
  case qc4 => unfold maxLen; omega
  case qc5 => omega
  case qc6 => simp
  intro v' w1 hown hgrow hnil
  go_wp2
  go_ret
  rcases hown.2 with ⟨h0, _⟩ | ⟨g, cap, cur, h0, _⟩
  · exact absurd h0 hnil
  · exact ⟨g, cap, by rw [h0]; rfl, ((Below.refl _ w).alloc (Nat.le_refl _) _).grown hgrow (by simp) (by intro k hk; simp [Value.ownBlock] at hk; omega)⟩

theorem clone_row (b off n c : Nat) (z : Nat → Int) (W : World) (hn : n ≤ 1048576) (h : ∀ j, j < n → W.cell? ⟨b, off + j, none⟩ = some (.int .u64 (z j))) :
    Calls Yba.prog 4 #[.slice (some ⟨b, off, none⟩) n c] W fun e w' => ∃ g kc, e = .returned (.slice (some ⟨g, 0, none⟩) n kc) ∧ g < w'.heap.size ∧ (∀ j, j < n → w'.cell? ⟨g, 0 + j, none⟩ = some (.int .u64 (z j))) ∧ Below W.heap.size W w' := by
  obtain ⟨i0, hi, hz0, hz1, hz2⟩ := info_parts Yba.info27
  have hl : ((List.range n).map fun j => Value.int .u64 (z j)).length = n * 1 := by simp
  have hc : ∀ j u, ((List.range n).map fun j => Value.int .u64 (z j))[j]? = some u → W.cell? ⟨b, off + j, none⟩ = some u := by
    intro j u hj
    by_cases hjn : j < n
    · simp [hjn] at hj
      rw [h j hjn, hj]
    · simp [hjn] at hj
  have hcon := AnyE.slices_Clone Yba.cloneU i0 _ 1 8 hi hz0 hz1 hz2 rfl (by omega) Yba.sizeOf27 b off n c _ W hl (by unfold maxLen; omega) (by omega) hc (by
    intro u hu
    obtain ⟨i, _, rfl⟩ := List.mem_map.1 hu
    rfl)
  refine Calls.mono (show Calls Yba.prog 4 _ _ _ from hcon) ?_
  rintro e w' ⟨v', rfl, hown, hnn, hbel⟩
  rcases hown.2 with ⟨h0, _⟩ | ⟨g, cap, cur, rfl, hb, hg, hnc, hcm, hcs, htake⟩
  · exact absurd h0 hnn
  · refine ⟨g, cap, rfl, (Array.getElem?_eq_some_iff.1 hg).1, fun j hj => ?_, hbel⟩
    rw [Nat.zero_add, World.ownsRow.cellAt hown j (by omega)]
    simp [hj]

/-- slices.Clone, at whatever answers. -/
theorem clone_any (ja : Option Addr) (n c : Nat) (z : Nat → Int) (W : World) (hn : n ≤ 1048576) (hnil : ja = none → n = 0 ∧ c = 0) (h : Jv W ja n z) :
    Calls Yba.prog 4 #[.slice ja n c] W fun e w' => ∃ ka kc, e = .returned (.slice ka n kc) ∧ ka.isNone = ja.isNone ∧ Jv w' ka n z ∧ Below W.heap.size W w' := by
  cases ja with
  | none =>
    obtain ⟨rfl, rfl⟩ := hnil rfl
    refine Calls.mono (show Calls Yba.prog 4 _ _ _ from AnyE.slices_Clone_nil Yba.cloneU 0 0 W) ?_
    rintro e w' ⟨rfl, rfl⟩
    exact ⟨none, 0, rfl, rfl, Or.inl rfl, Below.refl _ _⟩
  | some a =>
    rcases h with rfl | ⟨h1, b, off, ha, hb, hc⟩
    · refine (clone_empty a c W).mono ?_
      rintro e w' ⟨g, kc, rfl, hbel⟩
      exact ⟨some _, kc, rfl, rfl, Or.inl rfl, hbel⟩
    · simp only [Option.some.injEq] at ha
      subst ha
      refine (clone_row b off n c z W hn hc).mono ?_
      rintro e w' ⟨g, kc, rfl, hg, hc', hbel⟩
      exact ⟨some _, kc, rfl, rfl, Or.inr ⟨h1, g, 0, rfl, hg, hc'⟩, hbel⟩

set_option maxHeartbeats 400000 in
theorem equal_none (a1 a2 : Option Addr) (c1 c2 : Nat) (w : World) :
    Calls Yba.prog 9 #[.slice a1 0 c1, .slice a2 0 c2] w fun e w' => e = .returned (.bool true) ∧ ∃ q, w' = w.drewN q := by
  go_enter Yba.func9, Yba.ntmps9
  go_wp2
  refine wp_loop_rounds 1 ?_
  rw [rounds_succ]
  go_wp2
  go_ret
  exact ⟨rfl, 0, rfl⟩

theorem allEq_refl : ∀ l : List Int, Lib.allEq (fun x y : Int => x == y) l l = true
  | [] => rfl
  | x :: l => by simp [Lib.allEq, allEq_refl l]

/-- slices.Equal at two slices that hold the same answers. -/
theorem equal_any (ja ka : Option Addr) (n c kc : Nat) (z : Nat → Int) (W : World) (hn : n ≤ 1048576) (h1 : Jv W ja n z) (h2 : Jv W ka n z) :
    Calls Yba.prog 9 #[.slice ja n c, .slice ka n kc] W fun e w' => e = .returned (.bool true) ∧ ∃ q, w' = W.drewN q := by
  rcases h1 with rfl | ⟨hn1, b1, o1, rfl, _, hc1⟩
  · exact equal_none ja ka c kc W
  · rcases h2 with rfl | ⟨_, b2, o2, rfl, _, hc2⟩
    · omega
    · have hcon := AnyE.slices_Equal Yba.equalU (Value.int .u64) (fun x y => x == y) (NeqAt.int _ _ .u64) b1 o1 n c b2 o2 n kc ((List.range n).map z) ((List.range n).map z) W (by simp) (by simp) (by omega) (by omega)
        (fun j hj => by have hj' : j < n := by simpa using hj
                        rw [hc1 j hj']; simp [hj']) (fun j hj => by have hj' : j < n := by simpa using hj
                                                                    rw [hc2 j hj']; simp [hj'])
      rw [allEq_refl] at hcon
      exact hcon
end Go.Proofs.Ybulkehse
