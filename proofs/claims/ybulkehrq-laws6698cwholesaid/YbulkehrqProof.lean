/-
  The statement: for every input the law returns true; each argument reads as it did.
-/
import Derived.Test.YbulkehrqInput
import Derived.Test.YbulkehrqLaw
import Derived.Test.YbulkehrqNone
import Derived.Test.YbulkehrqSort
namespace Go.Proofs.Ybulkehrq
open Go.ChangeShapes Go.WideShapes Go.ChangeAt Go.RowKit

theorem own : ownKnob Yba.prog.godebug = none := by kernel_rfl
theorem laidOut : laidOutB Yba.prog = true := by kernel_rfl

theorem bounds_i16' {x : Int} (h : (Lit.int .i16 x).wf = true) : -32768 ≤ x ∧ x ≤ 32767 := by
  simp [Lit.wf, IntKind.min, IntKind.max, IntKind.signed, IntKind.bits] at h
  omega
theorem bounds_u8' {x : Int} (h : (Lit.int .u8 x).wf = true) : 0 ≤ x ∧ x ≤ 255 := by
  simp [Lit.wf, IntKind.min, IntKind.max, IntKind.signed, IntKind.bits] at h
  omega

/-- more than 2048 operations: true at once. -/
theorem law_big (md : Int) (a : Option Addr) (n cap : Nat) (h : 2048 < n) (w : World) :
    Calls Yba.prog 3 #[.int .u8 md, .slice a n cap] w fun e w' => e = .returned (.bool true) ∧ Below w.heap.size w w' := by
  have h' : (2048 : Int) < (n : Int) := by omega
  go_enter Yba.func3, Yba.ntmps3
  go_wp2
  go_ret
  exact ⟨rfl, Below.refl _ _⟩

theorem walk (md : Int) (a : Option Addr) (len cap : Nat) (w : World) (hmd : (Lit.int .u8 md).wf = true) (h : IsOps w a len cap) :
    Calls Yba.prog 3 #[.int .u8 md, .slice a len cap] w fun e w' => e = .returned (.bool true) ∧ Below w.heap.size w w' := by
  by_cases hbig : 2048 < len
  · exact law_big md a len cap hbig w
  rcases h with ⟨rfl, rfl, rfl⟩ | ⟨x, rfl, rfl⟩ | ⟨b, off, G, A, B, Rm, Em, V, rfl, h1, hb, hc⟩
  · exact law_nil sort_none md (bounds_u8' hmd) w
  · exact law_empty sort_none md (bounds_u8' hmd) x cap w
  · exact law_any (fun md bk n c G C R Rm Em V W h1 h2 h3 h4 h5 => max_any sort_any md bk n c G C R Rm Em V W h1 h2 h3 h4 h5) md b off len cap G A B Rm Em V w (bounds_u8' hmd) h1 (by omega) hb
      (fun j hj => bounds_i16' (hc j hj).2.2.2.2.2.2.1) (fun j hj => bounds_i16' (hc j hj).2.2.2.2.2.2.2)
      (fun j hj => (hc j hj).1) (fun j hj => (hc j hj).2.1) (fun j hj => (hc j hj).2.2.1) (fun j hj => (hc j hj).2.2.2.1) (fun j hj => (hc j hj).2.2.2.2.1) (fun j hj => (hc j hj).2.2.2.2.2.1)

set_option maxRecDepth 100000 in
theorem lifted (os : Os) (started : os.Started) (H : Type) (enc : TypeId × Value → H) :
    ReturnsInHanded {} Yba.checked os 3 .any (Rows.lawS6698CWholeSpec.pre6 enc Yba.prog Yba.f3 Rows.lawS6698CWholeRow.domain false) (Rows.lawS6698CWholeSpec.post enc Yba.prog Yba.f3 false true false false) := by
  refine returnsInHanded_of_change (C := Yba.checked) own started (by kernel_rfl) Yba.func3
    (ChangeSpec.witness6 (enc := enc) (C := Yba.checked) false ⟨#[], #[.int .u8 0, .slice none 0 0], []⟩ 8 (by kernel_rfl) (by kernel_rfl) (by kernel_rfl) (by kernel_rfl)) ?_
  intro W base args ds gs before hval0 hW hcnd _
  have hval : ∀ (j : Nat) t v, Yba.f3.params[j]? = some t → args[j]? = some v → Value.okWide Yba.prog W .any base t v := hval0
  have hW' := hW
  obtain ⟨p, q, hA0, hV, rfl, hfz, hnd⟩ := hW
  have hA : DataW.TrodAll enc Yba.prog W 0 (fun _ => true) true Yba.f3.params.toList args.toList ds p := hA0
  rw [Yba.params3] at hA hval
  obtain ⟨v0, vs0, d0, ds0, p0, q0, hargs, rfl, rfl, h0, r0⟩ := trodAll_cons hA
  obtain ⟨v1, vs1, d1, ds1, p1, q1, rfl, rfl, rfl, h1, r1⟩ := trodAll_cons r0
  obtain ⟨rfl, rfl, rfl⟩ := trodAll_nil r1
  obtain rfl : args = #[v0, v1] := by cases args; simp_all
  obtain ⟨rfl, rfl⟩ := trodVars_none hV
  obtain ⟨a0, rfl, rfl, rfl, w0⟩ := open_int Yba.underlying5 (hval 0 5 v0 rfl rfl) h0
  obtain ⟨a1, len1, cap1, rfl⟩ := okWide_slice Yba.underlying22 (hval 1 22 v1 rfl rfl)
  have k1 := h1
  have lt1 : ∀ x ∈ p1, x.block < W.heap.size := by obtain ⟨m, hm⟩ := k1; exact DataW.trod_lt m _ _ _ hm
  have ho : IsOps W a1 len1 cap1 := by
    obtain ⟨fuel, hf⟩ := h1
    exact open_ops (by simpa [Value.cells] using hf)
  clear hA0 hval0
  refine (walk a0 a1 len1 cap1 W w0 ho).mono fun e W' ⟨he, bel⟩ => ?_
  subst he
  exact ⟨_, rfl, _, _, _, [], _, [], hW', trodAll_mk1 (shut_bool Yba.underlying4 _), (trodAll_cons_mk (shut_int Yba.underlying5 w0) (trodAll_cons_mk (Below.trod laidOut (by kernel_rfl) (of_decide_eq_true (by kernel_rfl)) k1 bel lt1) trodAll_mk0)), rfl, bel.frame _, fun h => by cases h⟩

theorem over : Rows.lawS6698CWholeRow.holds Yba.pinned (OpenSpec.ofChange Rows.lawS6698CWholeSpec) :=
  OpenClaim.holds_of_wide 3 Yba.f3 rfl rfl rfl rfl rfl rfl rfl ⟨rfl, rfl, rfl, rfl, rfl⟩ rfl rfl rfl rfl rfl (by kernel_rfl) Yba.func3 (by kernel_rfl)
    (of_decide_eq_true (by kernel_rfl)) (by unfold Func.isWrapper; first | (rw [if_pos (by decide +kernel)]; kernel_rfl) | (rw [if_neg (by decide +kernel)]; exact ⟨rfl, rfl⟩))
    (fun os started H enc _ => lifted os started H enc)

/-- THE STATEMENT. -/
theorem proved : Rows.LawS6698CWholeSaid := over

end Go.Proofs.Ybulkehrq
