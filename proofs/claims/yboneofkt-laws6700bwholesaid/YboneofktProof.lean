/-
  The statement: for every input the law returns true; each argument reads as it did.
-/
import Derived.Test.YboneofktInput
import Derived.Test.YboneofktLaw
namespace Go.Proofs.Yboneofkt
open Go.ChangeShapes Go.WideShapes Go.ChangeAt Go.RowKit

theorem own : ownKnob Ybgt.prog.godebug = none := by kernel_rfl
theorem laidOut : laidOutB Ybgt.prog = true := by kernel_rfl

theorem walk (ar ag am : Option Addr) (n m q capr capg capm : Nat) (el ns L : Int) (w : World) (hr : IsBytes w ar n) (hg : IsGets w ag m) (hq : IsNums w am q) (we : (Lit.int .u8 el).wf = true) (wn : (Lit.int .u8 ns).wf = true) (wl : (Lit.int .i32 L).wf = true) :
    Calls Ybgt.prog 3 #[.slice ar n capr, .slice ag m capg, .int .u8 el, .int .u8 ns, .slice am q capm, .int .i32 L] w (Post w) := by
  have e1 := u8_in we
  have e2 := u8_in wn
  have e3 := i32_in wl
  obtain ⟨el', rfl⟩ : ∃ k : Nat, el = (k : Int) := ⟨el.toNat, by omega⟩
  obtain ⟨ns', rfl⟩ : ∃ k : Nat, ns = (k : Int) := ⟨ns.toNat, by omega⟩
  by_cases hbig : 65536 < n ∨ 4096 < m
  · exact law_big ar ag am n m q capr capg capm el' ns' L w hbig
  · obtain ⟨rbk, roff, RV, h1, h2, h3⟩ := hr
    obtain ⟨gbk, goff, GA, GB, GC, g1, g2, g3⟩ := hg
    obtain ⟨mbk, moff, MV, m1, m2, m3⟩ := hq
    exact law_any ar ag am n m q capr capg capm el' ns' L w rbk roff gbk goff mbk moff RV GA GB GC MV (by omega) (by omega) (by omega) (by omega) e3.1 e3.2 h1 h2 h3 g1 (fun j hj => (g2 j hj).1) (fun j hj => (g2 j hj).2.1) (fun j hj => (g2 j hj).2.2) g3 m1 m2 m3

set_option maxRecDepth 100000 in
theorem lifted (os : Os) (started : os.Started) (H : Type) (enc : TypeId × Value → H) :
    ReturnsInHanded {} Ybgt.checked os 3 .any (Rows.lawS6700BWholeSpec.pre6 enc Ybgt.prog Ybgt.f3 Rows.lawS6700BWholeRow.domain false) (Rows.lawS6700BWholeSpec.post enc Ybgt.prog Ybgt.f3 false true false false) := by
  refine returnsInHanded_of_change (C := Ybgt.checked) own started (by kernel_rfl) Ybgt.func3
    (ChangeSpec.witness6 (enc := enc) (C := Ybgt.checked) false ⟨#[], #[.slice none 0 0, .slice none 0 0, .int .u8 0, .int .u8 0, .slice none 0 0, .int .i32 0], []⟩ 8 (by kernel_rfl) (by kernel_rfl) (by kernel_rfl) (by kernel_rfl)) ?_
  intro W base args ds gs before hval0 hW hcnd _
  have hval : ∀ (j : Nat) t v, Ybgt.f3.params[j]? = some t → args[j]? = some v → Value.okWide Ybgt.prog W .any base t v := hval0
  have hW' := hW
  obtain ⟨p, q, hA0, hV, rfl, hfz, hnd⟩ := hW
  have hA : DataW.TrodAll enc Ybgt.prog W 0 (fun _ => true) true Ybgt.f3.params.toList args.toList ds p := hA0
  rw [Ybgt.params3] at hA hval
  obtain ⟨v0, vs0, d0, ds0, p0, q0, hargs, rfl, rfl, h0, r0⟩ := trodAll_cons hA
  obtain ⟨v1, vs1, d1, ds1, p1, q1, rfl, rfl, rfl, h1, r1⟩ := trodAll_cons r0
  obtain ⟨v2, vs2, d2, ds2, p2, q2, rfl, rfl, rfl, h2, r2⟩ := trodAll_cons r1
  obtain ⟨v3, vs3, d3, ds3, p3, q3, rfl, rfl, rfl, h3, r3⟩ := trodAll_cons r2
  obtain ⟨v4, vs4, d4, ds4, p4, q4, rfl, rfl, rfl, h4, r4⟩ := trodAll_cons r3
  obtain ⟨v5, vs5, d5, ds5, p5, q5, rfl, rfl, rfl, h5, r5⟩ := trodAll_cons r4
  obtain ⟨rfl, rfl, rfl⟩ := trodAll_nil r5
  obtain rfl : args = #[v0, v1, v2, v3, v4, v5] := by cases args; simp_all
  obtain ⟨rfl, rfl⟩ := trodVars_none hV
  obtain ⟨a0, len0, cap0, rfl⟩ := okWide_slice Ybgt.underlying22 (hval 0 22 v0 rfl rfl)
  obtain ⟨a1, len1, cap1, rfl⟩ := okWide_slice Ybgt.underlying23 (hval 1 23 v1 rfl rfl)
  obtain ⟨x2, rfl, rfl, rfl, w2⟩ := open_int Ybgt.underlying5 (hval 2 5 v2 rfl rfl) h2
  obtain ⟨x3, rfl, rfl, rfl, w3⟩ := open_int Ybgt.underlying5 (hval 3 5 v3 rfl rfl) h3
  obtain ⟨a4, len4, cap4, rfl⟩ := okWide_slice Ybgt.underlying24 (hval 4 24 v4 rfl rfl)
  obtain ⟨x5, rfl, rfl, rfl, w5⟩ := open_int Ybgt.underlying21 (hval 5 21 v5 rfl rfl) h5
  have k0 := h0
  have k1 := h1
  have k4 := h4
  have lt0 : ∀ x ∈ p0, x.block < W.heap.size := by obtain ⟨m, hm⟩ := k0; exact DataW.trod_lt m _ _ _ hm
  have lt1 : ∀ x ∈ p1, x.block < W.heap.size := by obtain ⟨m, hm⟩ := k1; exact DataW.trod_lt m _ _ _ hm
  have lt4 : ∀ x ∈ p4, x.block < W.heap.size := by obtain ⟨m, hm⟩ := k4; exact DataW.trod_lt m _ _ _ hm
  have he : IsBytes W a0 len0 := by
    obtain ⟨fuel, hf⟩ := h0
    exact open_bytes (by simpa [Value.cells] using hf)
  have hg : IsGets W a1 len1 := by
    obtain ⟨fuel, hf⟩ := h1
    exact open_gets (by simpa [Value.cells] using hf)
  have hn : IsNums W a4 len4 := by
    obtain ⟨fuel, hf⟩ := h4
    exact open_nums (by simpa [Value.cells] using hf)
  clear hA0 hval0
  refine (walk a0 a1 a4 len0 len1 len4 cap0 cap1 cap4 x2 x3 x5 W he hg hn w2 w3 w5).mono fun e W' ⟨hee, bel⟩ => ?_
  subst hee
  exact ⟨_, rfl, _, _, _, [], _, [], hW', trodAll_mk1 (shut_bool Ybgt.underlying4 _), (trodAll_cons_mk (Below.trod laidOut (by kernel_rfl) (of_decide_eq_true (by kernel_rfl)) k0 bel lt0) (trodAll_cons_mk (Below.trod laidOut (by kernel_rfl) (of_decide_eq_true (by kernel_rfl)) k1 bel lt1) (trodAll_cons_mk (shut_int Ybgt.underlying5 w2) (trodAll_cons_mk (shut_int Ybgt.underlying5 w3) (trodAll_cons_mk (Below.trod laidOut (by kernel_rfl) (of_decide_eq_true (by kernel_rfl)) k4 bel lt4) (trodAll_cons_mk (shut_int Ybgt.underlying21 w5) trodAll_mk0)))))), rfl, bel.frame _, fun h => by cases h⟩

theorem over : Rows.lawS6700BWholeRow.holds Ybgt.pinned (OpenSpec.ofChange Rows.lawS6700BWholeSpec) :=
  OpenClaim.holds_of_wide 3 Ybgt.f3 rfl rfl rfl rfl rfl rfl rfl ⟨rfl, rfl, rfl, rfl, rfl⟩ rfl rfl rfl rfl rfl (by kernel_rfl) Ybgt.func3 (by kernel_rfl)
    (of_decide_eq_true (by kernel_rfl)) (by unfold Func.isWrapper; first | (rw [if_pos (by decide +kernel)]; kernel_rfl) | (rw [if_neg (by decide +kernel)]; exact ⟨rfl, rfl⟩))
    (fun os started H enc _ => lifted os started H enc)

/-- THE STATEMENT. -/
theorem proved : Rows.LawS6700BWholeSaid := over

end Go.Proofs.Yboneofkt
