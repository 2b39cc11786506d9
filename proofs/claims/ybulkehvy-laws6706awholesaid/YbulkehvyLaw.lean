/-
  The law.
-/
import Derived.Test.YbulkehvyDen
namespace Go.Proofs.Ybulkehvy
open Go.RowKit

theorem SignIs.later {w w' : World} {v : Value} {k : Int} (h : SignIs w v k) (hb : Below w.heap.size w w') : SignIs w' v k := fun W hW => h W (hb.trans (hW.mono hb.size))

/-- FromInt, with its sign. -/
theorem fromInt_any (n : Int) (w : World) : Calls Yba.prog 4 #[.int .i64 n] w fun e w' => (∃ sm q, e = .returned (decv sm q) ∧ SignIs w' (decv sm q) (cmpv n 0) ∧ (0 < n → sm = n ∧ q = none)) ∧ Below w.heap.size w w' := by
  by_cases h : n = -9223372036854775808
  · subst h
    refine (from_big w).mono ?_
    rintro e w' ⟨⟨b, rfl, hb, hB⟩, hbel⟩
    refine ⟨⟨0, some ⟨b, 0, none⟩, rfl, fun W hW => ?_, fun h => by omega⟩, hbel⟩
    have := sign_big b W (Nat.lt_of_lt_of_le hb hW.size) (hB.below hb hW)
    simpa [cmpv] using this
  · refine (from_small n h w).mono ?_
    rintro e w' ⟨rfl, hbel⟩
    exact ⟨⟨n, none, rfl, fun W _ => sign_small n W, fun _ => ⟨rfl, rfl⟩⟩, hbel⟩

theorem heap_new_drew (w : World) (o : Obj) : (w.alloc o).heap[w.heap.size]? = some o := heap_alloc_new w o

/-- what the answer is. -/
def ans (m b : Int) : Value × Bool := if 0 < b then (decv b none, true) else if b = 0 ∧ m = 0 then (decv 1 none, true) else (decv 0 none, false)

theorem ans_den (m b sm : Int) (q : Option Addr) (h : 0 < b → sm = b ∧ q = none) : denv (cmpv b 0) (cmpv m 0) sm q = ans m b := by
  unfold denv ans cmpv
  by_cases h1 : 0 < b
  · obtain ⟨rfl, rfl⟩ := h h1
    have : ¬ sm < 0 := by omega
    simp [this, h1]
  · by_cases h2 : b = 0
    · subst h2
      by_cases h3 : m = 0
      · subst h3; simp
      · by_cases h4 : m < 0
        · simp [h3, h4]
        · have : 0 < m := by omega
          simp [h3, h4, this]
    · have : b < 0 := by omega
      simp [this, h1, h2]

theorem guard24 (n : Int) (x y : Operand) (w : World) : (eqGuard .eql 24 x y (.agg #[.int .i64 n, .pointer none, .int .i32 0]) (.agg #[.int .i64 n, .pointer none, .int .i32 0])).run Yba.prog w = .ok () w := by
  kernel_rfl

theorem eql24 (n : Int) (w : World) : (binOp .eql 24 (.agg #[.int .i64 n, .pointer none, .int .i32 0]) (.agg #[.int .i64 n, .pointer none, .int .i32 0])).run Yba.prog w = .ok (.bool true) w := by
  have hS : Yba.prog.underlying 24 = some (.struct (Yba.prog.fieldsOf 24)) := by kernel_rfl
  have hp : Yba.prog.stoodInHeld 24 = false := by kernel_rfl
  have h22 : ∀ W : World, (Op.equalIn 9999 22 (.pointer none) (.pointer none)).run Yba.prog W = .ok true W := fun W => run_equalIn_pointer_nil (P := Yba.prog) W 9998 22 none (by kernel_rfl)
  rw [run_eql_struct, show (10000 : Nat) = 9999 + 1 from rfl, run_equalIn_agg w 9999 24 _ _ hS hp]
  simp only [Program.fieldsOf, Yba.underlying24]
  go_simp

set_option maxHeartbeats 2000000 in
theorem law_any (m b : Int) (w : World) :
    Calls Yba.prog 3 #[.int .i64 m, .int .i64 b] w fun e w' => e = .returned (.bool true) ∧ Below w.heap.size w w' := by
  have hf1 := fromInt_any m w
  go_enter Yba.func3, Yba.ntmps3
  go_upto_region 1 with (fail)
  go_cut [5] (fun v wc => ∃ p5 sm qm, v = .pointer (some ⟨p5, 0, none⟩) ∧ wc.heap[p5]? = some (.cells #[.int .i64 sm, .pointer qm, .int .i32 0] 24) ∧ SignIs wc (decv sm qm) (cmpv m 0) ∧ Below w.heap.size w wc)
  case first =>
    go_wp2_with (go_at_call 4; refine hf1.mono ?_; rintro e w' ⟨⟨sm, q, rfl, hsg, hpos⟩, hbel⟩)
    go_meet
    case rel => exact ⟨w'.heap.size, sm, q, rfl, heap_alloc_new _ _, hsg.later ((Below.refl _ _).alloc (Nat.le_refl _) _), hbel.alloc hbel.size _⟩
  case rest =>
  obtain ⟨p5, sm, qm, rfl, h5, hsm, hb1⟩ := hcut
  rename World => w1
  have hp5 : p5 < w1.heap.size := (Array.getElem?_eq_some_iff.1 h5).1
  have H5 : Hid (w1.heap[p5]? = some (.cells #[.int .i64 sm, .pointer qm, .int .i32 0] 24)) := h5
  have HSM : Hid (SignIs w1 (decv sm qm) (cmpv m 0)) := hsm
  have hf2 := fromInt_any b w1
  clear h5 hsm hf1
  go_upto_region 2 with (fail)
  go_cut [6] (fun v wc => ∃ p6 sb qb, v = .pointer (some ⟨p6, 0, none⟩) ∧ wc.heap[p6]? = some (.cells #[.int .i64 sb, .pointer qb, .int .i32 0] 24) ∧ SignIs wc (decv sb qb) (cmpv b 0) ∧ (0 < b → sb = b ∧ qb = none) ∧ Below w1.heap.size w1 wc)
  case first =>
    go_wp2_with (go_at_call 4; refine hf2.mono ?_; rintro e w' ⟨⟨sb, q, rfl, hsg, hpos⟩, hbel⟩)
    go_meet
    case rel => exact ⟨w'.heap.size, sb, q, rfl, heap_alloc_new _ _, hsg.later ((Below.refl _ _).alloc (Nat.le_refl _) _), hpos, hbel.alloc hbel.size _⟩
  case rest =>
  obtain ⟨p6, sb, qb, rfl, h6, hsb, hpos, hb2⟩ := hcut
  rename World => w2
  have h5 := (hb2.block _ hp5).trans H5.out
  have a0 : w2.cell? ⟨p5, 0, none⟩ = some (.int .i64 sm) := by rw [cell_of h5]; rfl
  have a1 : w2.cell? ⟨p5, 1, none⟩ = some (.pointer qm) := by rw [cell_of h5]; rfl
  have a2 : w2.cell? ⟨p5, 2, none⟩ = some (.int .i32 0) := by rw [cell_of h5]; rfl
  have c0 : w2.cell? ⟨p6, 0, none⟩ = some (.int .i64 sb) := by rw [cell_of h6]; rfl
  have c1 : w2.cell? ⟨p6, 1, none⟩ = some (.pointer qb) := by rw [cell_of h6]; rfl
  have c2 : w2.cell? ⟨p6, 2, none⟩ = some (.int .i32 0) := by rw [cell_of h6]; rfl
  have hp6 : p6 < w2.heap.size := (Array.getElem?_eq_some_iff.1 h6).1
  have H6 : Hid (w2.heap[p6]? = some (.cells #[.int .i64 sb, .pointer qb, .int .i32 0] 24)) := h6
  have hd := den_any sm sb (cmpv m 0) (cmpv b 0) qm qb w2 (HSM.out.later hb2) hsb
  rw [ans_den m b sb qb hpos] at hd
  have HP : Hid (0 < b → sb = b ∧ qb = none) := hpos
  clear h5 h6 hsb hpos hf2
  have hav : ∃ an ab, ans m b = (decv an none, ab) := by
    unfold ans
    split
    · exact ⟨_, _, rfl⟩
    · split <;> exact ⟨_, _, rfl⟩
  obtain ⟨an, ab, hav⟩ := hav
  rw [hav] at hd
  have HAV : Hid (ans m b = (decv an none, ab)) := hav
  clear hav
  simp only at hd
  go_upto_region 3 with (fail)
  go_cut [7, 8] (fun v7 v8 wc => ∃ p7, v7 = .pointer (some ⟨p7, 0, none⟩) ∧ wc.heap[p7]? = some (.cells #[.int .i64 an, .pointer none, .int .i32 0] 24) ∧ v8 = .bool ab ∧ Below w2.heap.size w2 wc)
  case first =>
    go_wp2_with (go_at_call 5; refine hd.mono ?_; rintro e w' ⟨rfl, hbel⟩)
    go_meet
    case rel => exact ⟨w'.heap.size, rfl, heap_alloc_new _ _, rfl, hbel.alloc hbel.size _⟩
  case rest =>
  obtain ⟨p7, rfl, h7, rfl, hb3⟩ := hcut
  rename World => w3
  have h6 := (hb3.block _ hp6).trans H6.out
  have d0 : w3.cell? ⟨p7, 0, none⟩ = some (.int .i64 an) := by rw [cell_of h7]; rfl
  have d1 : w3.cell? ⟨p7, 1, none⟩ = some (.pointer none) := by rw [cell_of h7]; rfl
  have d2 : w3.cell? ⟨p7, 2, none⟩ = some (.int .i32 0) := by rw [cell_of h7]; rfl
  have e0 : w3.cell? ⟨p6, 0, none⟩ = some (.int .i64 sb) := by rw [cell_of h6]; rfl
  have e1 : w3.cell? ⟨p6, 1, none⟩ = some (.pointer qb) := by rw [cell_of h6]; rfl
  have e2 : w3.cell? ⟨p6, 2, none⟩ = some (.int .i32 0) := by rw [cell_of h6]; rfl
  have hp7 : p7 < w3.heap.size := (Array.getElem?_eq_some_iff.1 h7).1
  have hbw : Below w.heap.size w w3 := hb1.trans ((hb2.mono hb1.size).trans (hb3.mono (Nat.le_trans hb1.size hb2.size)))
  clear h6 h7 a0 a1 a2 c0 c1 c2 hd
  have hg24 := guard24
  have he24 := eql24
  by_cases hb : 0 < b
  · obtain ⟨rfl, rfl⟩ := HP.out hb
    have ha := HAV.out
    unfold ans at ha
    rw [if_pos hb] at ha
    simp only [Prod.mk.injEq] at ha
    obtain ⟨h1, rfl⟩ := ha
    have h1' : an = sb := by injection h1 with h1; have := congrArg (fun a : Array Value => a[0]?) h1; simp at this; omega
    subst h1'
    clear h1
    go_wp2
    go_ret
    exact ⟨by simp, hbw⟩
  · by_cases hz : b = 0 ∧ m = 0
    · obtain ⟨rfl, rfl⟩ := hz
      have ha := HAV.out
      unfold ans at ha
      rw [if_neg hb, if_pos ⟨rfl, rfl⟩] at ha
      simp only [Prod.mk.injEq] at ha
      obtain ⟨h1, rfl⟩ := ha
      have h1' : an = 1 := by injection h1 with h1; have := congrArg (fun a : Array Value => a[0]?) h1; simp at this; omega
      subst h1'
      clear h1
      have HC : Hid (∀ X : World, Below w3.drew.heap.size w3.drew X → X.cell? ⟨p7, 0, none⟩ = some (.int .i64 1) ∧ X.cell? ⟨p7, 1, none⟩ = some (.pointer none) ∧ X.cell? ⟨p7, 2, none⟩ = some (.int .i32 0)) := fun X hX =>
        ⟨(hX.cell (p := ⟨p7, 0, none⟩) hp7).trans d0, (hX.cell (p := ⟨p7, 1, none⟩) hp7).trans d1, (hX.cell (p := ⟨p7, 2, none⟩) hp7).trans d2⟩
      have hbd : Below w.heap.size w w3.drew := hbw.drew
      have hcm : cmpv 1 0 = 1 := by decide
      go_wp2
      go_region_held3 (fun w' => w'.cell? ⟨p7, 0, none⟩ = some (.int .i64 1) ∧ w'.cell? ⟨p7, 1, none⟩ = some (.pointer none) ∧ w'.cell? ⟨p7, 2, none⟩ = some (.int .i32 0)) (go_keep)
        (first | (go_at_call 4; refine (from_small 1 (by omega) _).mono ?_; rintro e w4 ⟨rfl, hb4⟩; have t := HC.out _ hb4; have t1 := t.1; have t2 := t.2.1; have t3 := t.2.2; clear t)
               | (go_at_call 6; refine (sign_small 1 _).mono ?_; rintro e w5 ⟨rfl, hb5⟩; rw [hcm]; have hb6 : Below w3.drew.heap.size w3.drew w5 := hb4.trans (hb5.mono hb4.size); have t := HC.out _ hb6; have t1 := t.1; have t2 := t.2.1; have t3 := t.2.2; clear t))
      go_wp2
      go_ret
      exact ⟨by simp, hbd.trans (hb6.mono hbd.size)⟩
    · have ha := HAV.out
      unfold ans at ha
      rw [if_neg hb, if_neg hz] at ha
      simp only [Prod.mk.injEq] at ha
      obtain ⟨h1, rfl⟩ := ha
      have h1' : an = 0 := by injection h1 with h1; have := congrArg (fun a : Array Value => a[0]?) h1; simp at this; omega
      subst h1'
      clear h1
      by_cases hb0 : b = 0
      · subst hb0
        have hm0 : (m == 0) = false := by simp; omega
        go_wp2
        go_ret
        exact ⟨by simp, hbw⟩
      · have hb0' : (b == 0) = false := by simpa using hb0
        go_wp2
        go_ret
        exact ⟨by simp, hbw⟩
end Go.Proofs.Ybulkehvy
