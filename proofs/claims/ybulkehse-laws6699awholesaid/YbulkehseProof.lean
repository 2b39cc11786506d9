/-
  The statement: for every input the law returns true; each argument reads as it did.
-/
import Derived.Test.YbulkehseInput
import Derived.Test.YbulkehseLaw
namespace Go.Proofs.Ybulkehse
open Go.ChangeShapes Go.WideShapes Go.ChangeAt Go.RowKit

theorem own : ownKnob Yba.prog.godebug = none := by kernel_rfl
theorem laidOut : laidOutB Yba.prog = true := by kernel_rfl

theorem jit_in {w : World} {ja : Option Addr} {n c : Nat} (h : IsJit w ja n c) : ∃ z, Jv w ja n z ∧ (ja = none → n = 0 ∧ c = 0) ∧ 0 ≤ rndv n z ∧ rndv n z ≤ 18446744073709551615 := by
  rcases h with ⟨rfl, rfl, rfl⟩ | ⟨x, rfl, rfl⟩ | ⟨b, off, z, rfl, h1, hb, hc⟩
  · exact ⟨fun _ => 0, Or.inl rfl, fun _ => ⟨rfl, rfl⟩, by decide, by decide⟩
  · exact ⟨fun _ => 0, Or.inl rfl, fun h => (by cases h), by simp [rndv], by simp [rndv]⟩
  · have e : rndv n z = z 0 := by unfold rndv; rw [if_neg (by omega)]
    have hz := bd_u64 (hc 0 (by omega)).2
    exact ⟨z, Or.inr ⟨h1, b, off, rfl, hb, fun j hj => (hc j hj).1⟩, fun h => (by cases h), by rw [e]; exact hz.1, by rw [e]; exact hz.2⟩

set_option maxRecDepth 10000 in
theorem walk {H : Type} {enc : TypeId × Value → H} {w : World} {spare : Nat → Bool} {held : Bool} {fuel : Nat} {cs : Array Value} {x : DataW H × List MemPlace} (now diag : Int)
    (h : DataW.trod enc Yba.prog w 0 spare held fuel 25 cs.toList = some x) :
    Calls Yba.prog 3 #[.agg cs, .int .i64 now, .int .u8 diag] w
      fun e w' => e = .returned (.bool true) ∧ Below w.heap.size w w' := by
  obtain ⟨md, cT, cR, slow, dm, role, lat, ja, n, c, st0, dg, d, rr, pol, ad, dmr, rd, rs0, r, hl, dt, da, last, next, hcs, hj, hro, hst, hrs, hcT, hr2, hl3, hl4⟩ := open_state h
  by_cases hn : n ≤ 1048576
  · obtain ⟨z, hJ, hnil, hz5, hz6⟩ := jit_in hj
    exact law_any md cT cR slow dm role lat ja n c z st0 dg d rr pol ad dmr rd rs0 r hl dt da last next now diag w cs hn hnil hJ hro hst hrs
      (by rw [← Array.getElem?_toList, hcs]; rfl) (by rw [← Array.getElem?_toList, hcs]; rfl) (by rw [← Array.getElem?_toList, hcs]; rfl) (by rw [← Array.getElem?_toList, hcs]; rfl) (by rw [← Array.getElem?_toList, hcs]; rfl) (by rw [← Array.getElem?_toList, hcs]; rfl) (by rw [← Array.getElem?_toList, hcs]; rfl) (by rw [← Array.getElem?_toList, hcs]; rfl) (by rw [← Array.getElem?_toList, hcs]; rfl) (by rw [← Array.getElem?_toList, hcs]; rfl) (by rw [← Array.getElem?_toList, hcs]; rfl) (by rw [← Array.getElem?_toList, hcs]; rfl) (by rw [← Array.getElem?_toList, hcs]; rfl) (by rw [← Array.getElem?_toList, hcs]; rfl) (by rw [← Array.getElem?_toList, hcs]; rfl) (by rw [← Array.getElem?_toList, hcs]; rfl) (by rw [← Array.getElem?_toList, hcs]; rfl) (by rw [← Array.getElem?_toList, hcs]; rfl) (by rw [← Array.getElem?_toList, hcs]; rfl) (by rw [← Array.getElem?_toList, hcs]; rfl) (by rw [← Array.getElem?_toList, hcs]; rfl) (by rw [← Array.getElem?_toList, hcs]; rfl) (by rw [← Array.getElem?_toList, hcs]; rfl)
      hcT hr2 hl3 hl4 hz5 hz6
  · exact law_long cs now diag ja n c w hn (by rw [← Array.getElem?_toList, hcs]; rfl)

set_option maxRecDepth 100000 in
theorem lifted (os : Os) (started : os.Started) (H : Type) (enc : TypeId × Value → H) :
    ReturnsInHanded {} Yba.checked os 3 .any (Rows.lawS6699AWholeSpec.pre6 enc Yba.prog Yba.f3 Rows.lawS6699AWholeRow.domain false) (Rows.lawS6699AWholeSpec.post enc Yba.prog Yba.f3 false true false false) := by
  refine returnsInHanded_of_change (C := Yba.checked) own started (by kernel_rfl) Yba.func3
    (ChangeSpec.witness6 (enc := enc) (C := Yba.checked) false ⟨#[], #[.agg #[.int .u32 0, .int .i64 0, .int .i64 0, .bool false, .int .u8 0, .int .u8 0, .int .i64 0, .slice none 0 0, .int .u8 0, .int .u8 0, .int .i64 0, .int .i64 0, .bool false, .bool false, .int .i64 0, .int .u32 0, .int .u8 0, .int .i64 0, .bool false, .bool false, .int .i64 0, .int .i64 0, .int .i64 0], .int .i64 0, .int .u8 0], []⟩ 8 (by kernel_rfl) (by kernel_rfl) (by kernel_rfl) (by kernel_rfl)) ?_
  intro W base args ds gs before hval0 hW hcnd _
  have hval : ∀ (j : Nat) t v, Yba.f3.params[j]? = some t → args[j]? = some v → Value.okWide Yba.prog W .any base t v := hval0
  have hW' := hW
  obtain ⟨p, q, hA0, hV, rfl, hfz, hnd⟩ := hW
  have hA : DataW.TrodAll enc Yba.prog W 0 (fun _ => true) true Yba.f3.params.toList args.toList ds p := hA0
  rw [Yba.params3] at hA hval
  obtain ⟨v0, vs0, d0, ds0, p0, q0, hargs, rfl, rfl, h0, r0⟩ := trodAll_cons hA
  obtain ⟨v1, vs1, d1, ds1, p1, q1, rfl, rfl, rfl, h1, r1⟩ := trodAll_cons r0
  obtain ⟨v2, vs2, d2, ds2, p2, q2, rfl, rfl, rfl, h2, r2⟩ := trodAll_cons r1
  obtain ⟨rfl, rfl, rfl⟩ := trodAll_nil r2
  obtain rfl : args = #[v0, v1, v2] := by cases args; simp_all
  obtain ⟨rfl, rfl⟩ := trodVars_none hV
  obtain ⟨cs, rfl, hsz⟩ := okWide_struct Yba.underlying25 (hval 0 25 v0 rfl rfl)
  obtain ⟨a1, rfl, rfl, rfl, w1⟩ := open_int Yba.underlying2 (hval 1 2 v1 rfl rfl) h1
  obtain ⟨a2, rfl, rfl, rfl, w2⟩ := open_int Yba.underlying5 (hval 2 5 v2 rfl rfl) h2
  have k0 := h0
  have lt0 : ∀ x ∈ p0, x.block < W.heap.size := by obtain ⟨m, hm⟩ := k0; exact DataW.trod_lt m _ _ _ hm
  have ho : Calls Yba.prog 3 #[.agg cs, .int .i64 a1, .int .u8 a2] W fun e w' => e = .returned (.bool true) ∧ Below W.heap.size W w' := by
    obtain ⟨fuel, hf⟩ := h0
    exact walk a1 a2 (by simpa [Value.cells] using hf)
  clear hA0 hval0
  refine ho.mono fun e W' ⟨he, bel⟩ => ?_
  subst he
  exact ⟨_, rfl, _, _, _, [], _, [], hW', trodAll_mk1 (shut_bool Yba.underlying4 _), (trodAll_cons_mk (Below.trod laidOut (by kernel_rfl) (of_decide_eq_true (by kernel_rfl)) k0 bel lt0) (trodAll_cons_mk (shut_int Yba.underlying2 w1) (trodAll_cons_mk (shut_int Yba.underlying5 w2) trodAll_mk0))), rfl, bel.frame _, fun h => by cases h⟩

theorem over : Rows.lawS6699AWholeRow.holds Yba.pinned (OpenSpec.ofChange Rows.lawS6699AWholeSpec) :=
  OpenClaim.holds_of_wide 3 Yba.f3 rfl rfl rfl rfl rfl rfl rfl ⟨rfl, rfl, rfl, rfl, rfl⟩ rfl rfl rfl rfl rfl (by kernel_rfl) Yba.func3 (by kernel_rfl)
    (of_decide_eq_true (by kernel_rfl)) (by unfold Func.isWrapper; first | (rw [if_pos (by decide +kernel)]; kernel_rfl) | (rw [if_neg (by decide +kernel)]; exact ⟨rfl, rfl⟩))
    (fun os started H enc _ => lifted os started H enc)

/-- THE STATEMENT. -/
theorem proved : Rows.LawS6699AWholeSaid := over

end Go.Proofs.Ybulkehse
