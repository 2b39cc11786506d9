/-
  The statement: for every input the law returns true; each argument reads as it did.
-/
import Derived.Test.YboneofkuInput
import Derived.Test.YboneofkuLaw
import Derived.ChangeMaps5
namespace Go.Proofs.Yboneofku
open Go.ChangeShapes Go.WideShapes Go.ChangeAt Go.RowKit

theorem own : ownKnob Ybgu.prog.godebug = none := by kernel_rfl
theorem laidOut : laidOutB Ybgu.prog = true := by kernel_rfl

theorem nonneg_u8 {x : Int} (h : (Lit.int .u8 x).wf = true) : 0 ≤ x := by
  simp [Lit.wf, IntKind.min, IntKind.max, IntKind.signed, IntKind.bits] at h
  omega

/-- the items, of whatever slice of elements. -/
theorem build_all (w : World) (ae : Option Addr) (n cape : Nat) (id : ByteArray) (hn : n ≤ 2048) (h : IsElems w ae n) :
    ∃ (S : Nat → ByteArray) (N T : Nat → Int) (St : Nat → Bool), (∀ j, j < n → Wf (N j)) ∧
      ∀ W, Below w.heap.size w W → Calls Ybgu.prog 4 #[.slice ae n cape, .string id] W fun e w' => e = .returned (.slice (some ⟨W.heap.size, 0, none⟩) n n) ∧ w'.rowIs W.heap.size 48 (n * 20) (rowI S N T St) ∧ Below W.heap.size W w' := by
  rcases h with rfl | ⟨b, off, A, S, N, B, T, rfl, hb, hc⟩
  · exact ⟨fun _ => ⟨#[]⟩, fun _ => 0, fun _ => 0, fun _ => false, fun j hj => by omega, fun W _ => build_none ae cape _ id W⟩
  · refine ⟨sessv A S id, N, T, B, fun j hj => (hc j hj).2.2.2.2.2.2, fun W hW => ?_⟩
    have hcell : ∀ x, W.cell? ⟨b, x, none⟩ = w.cell? ⟨b, x, none⟩ := fun x => hW.cell hb
    exact build_any b off n cape A S N B T id W hn (Nat.lt_of_lt_of_le hb hW.size) (fun j hj => nonneg_u8 (hc j hj).2.2.2.2.2.1)
      (fun j hj => (hcell _).trans (hc j hj).1) (fun j hj => (hcell _).trans (hc j hj).2.1) (fun j hj => (hcell _).trans (hc j hj).2.2.1) (fun j hj => (hcell _).trans (hc j hj).2.2.2.1) (fun j hj => (hcell _).trans (hc j hj).2.2.2.2.1)

theorem walk (ae an : Option Addr) (n cape m capn : Nat) (id : ByteArray) (nm : Bool) (o : Int) (w : World) (he : IsElems w ae n) (hn : IsEntries w an m) :
    Calls Ybgu.prog 3 #[.slice ae n cape, .string id, .slice an m capn, .bool nm, .int .i64 o] w fun e w' => e = .returned (.bool true) ∧ Below w.heap.size w w' := by
  by_cases hbig : 2048 < n
  · exact law_big1 _ _ _ _ _ ae n cape w rfl hbig
  by_cases hbig2 : 65536 < m
  · exact law_big2 _ _ _ ae an n cape m capn w (by omega) hbig2
  obtain ⟨S, N, T, St, hN, hbld⟩ := build_all w ae n cape id (by omega) he
  rcases hn with rfl | ⟨b, off, eN, eL, eT, eS, eP, eU, rfl, hb, hc⟩
  · exact law_any ae an n 0 cape capn 0 0 S N T St (fun _ => 0) (fun _ => false) (fun _ => 0) (fun _ => ⟨#[]⟩) (fun _ => 0) (fun _ => false) id nm o w (by omega) (by omega) hbld (fun h => by omega)
      (fun j hj => by omega) (fun j hj => by omega) (fun j hj => by omega) (fun j hj => by omega) (fun j hj => by omega) (fun j hj => by omega) hN (fun j hj => by omega)
  · exact law_any ae _ n m cape capn b off S N T St eN eL eT eS eP eU id nm o w (by omega) (by omega) hbld (fun _ => ⟨rfl, hb⟩)
      (fun j hj => (hc j hj).1) (fun j hj => (hc j hj).2.1) (fun j hj => (hc j hj).2.2.1) (fun j hj => (hc j hj).2.2.2.1) (fun j hj => (hc j hj).2.2.2.2.1) (fun j hj => (hc j hj).2.2.2.2.2.1) hN (fun j hj => (hc j hj).2.2.2.2.2.2)

set_option maxRecDepth 100000 in
theorem lifted (os : Os) (started : os.Started) (H : Type) (enc : TypeId × Value → H) :
    ReturnsInHanded {} Ybgu.checked os 3 .any (Rows.lawS6700CWholeSpec.pre6 enc Ybgu.prog Ybgu.f3 Rows.lawS6700CWholeRow.domain false) (Rows.lawS6700CWholeSpec.post enc Ybgu.prog Ybgu.f3 false true false false) := by
  refine returnsInHanded_of_change (C := Ybgu.checked) own started (by kernel_rfl) Ybgu.func3
    (ChangeSpec.witness6 (enc := enc) (C := Ybgu.checked) false ⟨#[], #[.slice none 0 0, .string ⟨#[]⟩, .slice none 0 0, .bool false, .int .i64 0], []⟩ 8 (by kernel_rfl) (by kernel_rfl) (by kernel_rfl) (by kernel_rfl)) ?_
  intro W base args ds gs before hval0 hW hcnd _
  have hval : ∀ (j : Nat) t v, Ybgu.f3.params[j]? = some t → args[j]? = some v → Value.okWide Ybgu.prog W .any base t v := hval0
  have hW' := hW
  obtain ⟨p, q, hA0, hV, rfl, hfz, hnd⟩ := hW
  have hA : DataW.TrodAll enc Ybgu.prog W 0 (fun _ => true) true Ybgu.f3.params.toList args.toList ds p := hA0
  rw [Ybgu.params3] at hA hval
  obtain ⟨v0, vs0, d0, ds0, p0, q0, hargs, rfl, rfl, h0, r0⟩ := trodAll_cons hA
  obtain ⟨v1, vs1, d1, ds1, p1, q1, rfl, rfl, rfl, h1, r1⟩ := trodAll_cons r0
  obtain ⟨v2, vs2, d2, ds2, p2, q2, rfl, rfl, rfl, h2, r2⟩ := trodAll_cons r1
  obtain ⟨v3, vs3, d3, ds3, p3, q3, rfl, rfl, rfl, h3, r3⟩ := trodAll_cons r2
  obtain ⟨v4, vs4, d4, ds4, p4, q4, rfl, rfl, rfl, h4, r4⟩ := trodAll_cons r3
  obtain ⟨rfl, rfl, rfl⟩ := trodAll_nil r4
  obtain rfl : args = #[v0, v1, v2, v3, v4] := by cases args; simp_all
  obtain ⟨rfl, rfl⟩ := trodVars_none hV
  obtain ⟨a0, len0, cap0, rfl⟩ := okWide_slice Ybgu.underlying22 (hval 0 22 v0 rfl rfl)
  obtain ⟨s1, rfl, rfl, rfl, hs1⟩ := ChangeMaps.open_string Ybgu.underlying9 (hval 1 9 v1 rfl rfl) h1
  obtain ⟨a2, len2, cap2, rfl⟩ := okWide_slice Ybgu.underlying23 (hval 2 23 v2 rfl rfl)
  obtain ⟨b3, rfl, rfl, rfl⟩ := open_bool Ybgu.underlying4 (hval 3 4 v3 rfl rfl) h3
  obtain ⟨x4, rfl, rfl, rfl, w4⟩ := open_int Ybgu.underlying2 (hval 4 2 v4 rfl rfl) h4
  have k0 := h0
  have k2 := h2
  have lt0 : ∀ x ∈ p0, x.block < W.heap.size := by obtain ⟨m, hm⟩ := k0; exact DataW.trod_lt m _ _ _ hm
  have lt2 : ∀ x ∈ p2, x.block < W.heap.size := by obtain ⟨m, hm⟩ := k2; exact DataW.trod_lt m _ _ _ hm
  have he : IsElems W a0 len0 := by
    obtain ⟨fuel, hf⟩ := h0
    exact open_elems (by simpa [Value.cells] using hf)
  have hn : IsEntries W a2 len2 := by
    obtain ⟨fuel, hf⟩ := h2
    exact open_entries (by simpa [Value.cells] using hf)
  clear hA0 hval0
  refine (walk a0 a2 len0 cap0 len2 cap2 s1 b3 x4 W he hn).mono fun e W' ⟨hee, bel⟩ => ?_
  subst hee
  exact ⟨_, rfl, _, _, _, [], _, [], hW', trodAll_mk1 (shut_bool Ybgu.underlying4 _), (trodAll_cons_mk (Below.trod laidOut (by kernel_rfl) (of_decide_eq_true (by kernel_rfl)) k0 bel lt0) (trodAll_cons_mk (ChangeMaps.shut_string Ybgu.underlying9 hs1) (trodAll_cons_mk (Below.trod laidOut (by kernel_rfl) (of_decide_eq_true (by kernel_rfl)) k2 bel lt2) (trodAll_cons_mk (shut_bool Ybgu.underlying4 _) (trodAll_cons_mk (shut_int Ybgu.underlying2 w4) trodAll_mk0))))), rfl, bel.frame _, fun h => by cases h⟩

theorem over : Rows.lawS6700CWholeRow.holds Ybgu.pinned (OpenSpec.ofChange Rows.lawS6700CWholeSpec) :=
  OpenClaim.holds_of_wide 3 Ybgu.f3 rfl rfl rfl rfl rfl rfl rfl ⟨rfl, rfl, rfl, rfl, rfl⟩ rfl rfl rfl rfl rfl (by kernel_rfl) Ybgu.func3 (by kernel_rfl)
    (of_decide_eq_true (by kernel_rfl)) (by unfold Func.isWrapper; first | (rw [if_pos (by decide +kernel)]; kernel_rfl) | (rw [if_neg (by decide +kernel)]; exact ⟨rfl, rfl⟩))
    (fun os started H enc _ => lifted os started H enc)

/-- THE STATEMENT. -/
theorem proved : Rows.LawS6700CWholeSaid := over

end Go.Proofs.Yboneofku
