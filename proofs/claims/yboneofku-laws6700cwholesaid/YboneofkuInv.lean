/-
  What the law's own memory says between two steps; the keys; the items built from any slice.
-/
import Derived.Test.YboneofkuMap
import Derived.OwnWalk
namespace Go.Proofs.Yboneofku
open Go.RowKit

theorem cell_of {w : World} {b : Nat} {cs : Array Value} {ty : TypeId} (h : w.heap[b]? = some (.cells cs ty)) (i : Nat) : w.cell? ⟨b, i, none⟩ = cs[i]? := by simp [World.cell?, h]
theorem frozen_of {w : World} {b : Nat} {cs : Array Value} {ty : TypeId} (h : w.heap[b]? = some (.cells cs ty)) (i : Nat) : w.frozen? ⟨b, i, none⟩ = false := by simp [World.frozen?, h]
theorem heap_alloc_new' (w : World) (o : Obj) : (w.alloc o).drew.heap[w.heap.size]? = some o := by
  show (w.heap.push o)[w.heap.size]? = _
  simp
theorem heap_set {w : World} {b : Nat} {cs : Array Value} {ty : TypeId} (h : w.heap[b]? = some (.cells cs ty)) (i : Nat) (v : Value) : (w.setCell ⟨b, i, none⟩ v).heap[b]? = some (.cells (cs.setIfInBounds i v) ty) := by
  simp [World.setCell, Array.getElem?_modify, h]
theorem lt_of_block {w : World} {b : Nat} {o : Obj} (h : w.heap[b]? = some o) : b < w.heap.size := (Array.getElem?_eq_some_iff.1 h).1

/-- the items as the row bears them. -/
abbrev rowI (S : Nat → ByteArray) (N T : Nat → Int) (St : Nat → Bool) (i : Nat) : Value := icell (St (i / 20)) (T (i / 20)) (S (i / 20)) (N (i / 20)) (i % 20)

theorem row_range {w : World} {rb n : Nat} {S : Nat → ByteArray} {N T : Nat → Int} {St : Nat → Bool} (h : w.rowIs rb 48 (n * 20) (rowI S N T St)) {k : Nat} (hk : k < n) : w.rangeAt rb (k * 20) (itemv (St k) (T k) (S k) (N k)).toList := by
  intro j v hv
  have hj : j < 20 := (List.getElem?_eq_some_iff.1 hv).1
  rw [h.cell (by omega)]
  have e1 : (k * 20 + j) / 20 = k := by omega
  have e2 : (k * 20 + j) % 20 = j := by omega
  rw [rowI, e1, e2, ← hv, itemv_get _ _ _ _ _ hj]

theorem rowIs_of_block {w w' : World} {b t n : Nat} {f : Nat → Value} (h : w.rowIs b t n f) (hb : w'.heap[b]? = w.heap[b]?) : w'.rowIs b t n f := by
  obtain ⟨c, h1, h2⟩ := h
  exact ⟨c, hb.trans h1, h2⟩

/-! ### the keys -/
def KeysOK (ks : List Int) (D : DataW LA) : Prop := ks.length = Maps.size D ∧ (∀ x ∈ ks, Maps.has D (kl x) = true ∧ Wf x) ∧ Maps.Tidy D

theorem keys_empty : KeysOK [] (.map []) := ⟨rfl, by simp, Maps.tidy_empty⟩

theorem keys_step {ks : List Int} {D : DataW LA} (h : KeysOK ks D) {x : Int} (hx : Wf x) (a : LA) (ht : Maps.Tidy (D.put (kl x) (.held a))) : KeysOK (if Maps.has D (kl x) then ks else ks ++ [x]) (D.put (kl x) (.held a)) := by
  have hsp := Maps.size_put (k := kl x) h.2.2 (.held a)
  have hs := Maps.has_put_same h.2.2.isMap (k := kl x) (by trivial) (.held a)
  have ho : ∀ y, Maps.has D (kl y) = true → Maps.has (D.put (kl x) (.held a)) (kl y) = true := by
    intro y hy
    by_cases e : y = x
    · subst e; exact hs
    · rw [Maps.has_put_other (by simpa [kl] using e)]; exact hy
  refine ⟨?_, ?_, ht⟩
  · rw [hsp]
    cases hh : Maps.has D (kl x)
    · simp [h.1]
    · simpa using h.1
  · intro y hy
    cases hh : Maps.has D (kl x)
    · rw [hh] at hy
      simp at hy
      rcases hy with hy | rfl
      · exact ⟨ho y (h.2.1 y hy).1, (h.2.1 y hy).2⟩
      · exact ⟨hs, hx⟩
    · rw [hh] at hy
      exact ⟨ho y (h.2.1 y hy).1, (h.2.1 y hy).2⟩

/-! ### the invariant -/
structure Inv (w0 : World) (n : Nat) (S : Nat → ByteArray) (N T : Nat → Int) (St : Nat → Bool) (o : Int) (rb ob eb : Nat) (nil0 : Bool) (c0 : Nat) (D0 : DataW LA) (ks : List Int) (c : Nat) (D : DataW LA) (kv : Value) (wr : World) : Prop where
  keys : wr.ownsRow w0.heap.size 2 1 kv ks.length (ks.map (Value.int .i64))
  exp : OM wr eb c D
  shown : ShownIs wr ob c0 D0 nil0
  own : ∃ mv, wr.heap[ob]? = some (.cells #[.int .i64 o, .slice none 0 0, .slice none 0 0, mv] 30) ∧ mv ≠ .map (some eb) ∧ ∀ mb, mv = .map (some mb) → w0.heap.size ≤ mb
  row : wr.rowIs rb 48 (n * 20) (rowI S N T St)
  bel : Below w0.heap.size w0 wr
  low : w0.heap.size ≤ rb ∧ w0.heap.size ≤ ob ∧ w0.heap.size ≤ eb

section
variable {w0 : World} {n : Nat} {S : Nat → ByteArray} {N T : Nat → Int} {St : Nat → Bool} {o : Int} {rb ob eb : Nat} {nil0 : Bool} {c0 : Nat} {D0 : DataW LA} {ks : List Int} {c : Nat} {D : DataW LA} {kv : Value} {wr W : World}

theorem Inv.lts (h : Inv w0 n S N T St o rb ob eb nil0 c0 D0 ks c D kv wr) : rb < wr.heap.size ∧ ob < wr.heap.size ∧ eb < wr.heap.size := by
  obtain ⟨mv, h1, _⟩ := h.own
  exact ⟨h.row.lt, lt_of_block h1, h.exp.lt⟩

/-- the blocks of the invariant, and the new ones. -/
theorem Inv.kp (h : Inv w0 n S N T St o rb ob eb nil0 c0 D0 ks c D kv wr) (hk : Kp (fun _ => False) wr W) : Inv w0 n S N T St o rb ob eb nil0 c0 D0 ks c D kv W := by
  obtain ⟨hr, hoo, he⟩ := h.lts
  obtain ⟨mv, h1, h2⟩ := h.own
  have hB : ∀ b, b < wr.heap.size → W.heap[b]? = wr.heap[b]? := fun b hb => hk.block b hb (fun f => f)
  refine ⟨?_, OM.of_block h.exp (hB _ he), ?_, ⟨mv, (hB _ hoo).trans h1, h2⟩, rowIs_of_block h.row (hB _ hr), h.bel.trans ⟨hk.os, hk.tape, hk.output, hk.size, fun b hb => hB b (Nat.lt_of_lt_of_le hb h.bel.size)⟩, h.low⟩
  · exact h.keys.kept (row := none) ⟨hk.os, hk.tape, hk.output, hk.size, fun b hb _ => hB b hb⟩ (by cases kv.ownBlock <;> simp)
  · rcases h.shown with ⟨a1, a2, a3⟩ | ⟨a1, mb, a2, a3⟩
    · exact .inl ⟨a1, (World.cell?_of_block (w := wr) (hB _ hoo)).trans a2, a3⟩
    · exact .inr ⟨a1, mb, (World.cell?_of_block (w := wr) (hB _ hoo)).trans a2, OM.of_block a3 (hB _ a3.lt)⟩

theorem Inv.below (h : Inv w0 n S N T St o rb ob eb nil0 c0 D0 ks c D kv wr) (hk : Below wr.heap.size wr W) : Inv w0 n S N T St o rb ob eb nil0 c0 D0 ks c D kv W :=
  h.kp ⟨hk.os, hk.tape, hk.output, hk.size, fun b hb _ => hk.block b hb⟩
theorem Inv.alloc (h : Inv w0 n S N T St o rb ob eb nil0 c0 D0 ks c D kv wr) (x : Obj) : Inv w0 n S N T St o rb ob eb nil0 c0 D0 ks c D kv (wr.alloc x) := h.kp ((Kp.refl _ _).alloc _)
theorem Inv.drew (h : Inv w0 n S N T St o rb ob eb nil0 c0 D0 ks c D kv wr) : Inv w0 n S N T St o rb ob eb nil0 c0 D0 ks c D kv wr.drew := h.kp ((Kp.refl _ _).drew)

/-- the keys' block is none of the others. -/
theorem own_ne {base : Nat} {xs : List Value} {m : Nat} (h : wr.ownsRow base 2 1 kv m xs) {b : Nat} {ob' : Obj} (hb : wr.heap[b]? = some ob') (hne : ∀ cs f, ob' ≠ .cells cs 2 f) : kv.ownBlock ≠ some b := by
  intro e
  rcases h.2 with ⟨rfl, _⟩ | ⟨g, cap, cur, rfl, _, hg, _⟩
  · simp [Value.ownBlock] at e
  · simp [Value.ownBlock] at e
    subst e
    rw [hg] at hb
    cases hb
    exact hne _ _ rfl

/-- one key more. -/
theorem Inv.append (h : Inv w0 n S N T St o rb ob eb nil0 c0 D0 ks c D kv wr) {x : Int} {kv' : Value} (hk : W.ownsRow w0.heap.size 2 1 kv' (ks ++ [x]).length ((ks ++ [x]).map (Value.int .i64))) (hg : wr.grownBy W kv.ownBlock) :
    Inv w0 n S N T St o rb ob eb nil0 c0 D0 (ks ++ [x]) c D kv' W := by
  obtain ⟨hr, hoo, he⟩ := h.lts
  obtain ⟨mv, h1, h2⟩ := h.own
  obtain ⟨rc, hrc, _⟩ := h.row
  obtain ⟨es, cl, hes, _⟩ := h.exp
  have b1 := hg.block rb hr (Ne.symm (own_ne h.keys hrc (by intro cs f e; cases e)))
  have b2 := hg.block ob hoo (Ne.symm (own_ne h.keys h1 (by intro cs f e; cases e)))
  have b3 := hg.block eb he (Ne.symm (own_ne h.keys hes (by intro cs f e; cases e)))
  refine ⟨hk, OM.of_block h.exp b3, ?_, ⟨mv, b2.trans h1, h2⟩, rowIs_of_block h.row b1, h.bel.grown hg h.bel.size (fun k hk => (h.keys.lt k hk).1), h.low⟩
  rcases h.shown with ⟨a1, a2, a3⟩ | ⟨a1, mb, a2, a3⟩
  · exact .inl ⟨a1, (World.cell?_of_block (w := wr) b2).trans a2, a3⟩
  · have a3' := a3
    obtain ⟨es', cl', hes', _⟩ := a3'
    exact .inr ⟨a1, mb, (World.cell?_of_block (w := wr) b2).trans a2, OM.of_block a3 (hg.block mb a3.lt (Ne.symm (own_ne h.keys hes' (by intro cs f e; cases e))))⟩

/-- the expected map is written. -/
theorem Inv.putExp (h : Inv w0 n S N T St o rb ob eb nil0 c0 D0 ks c D kv wr) {c' : Nat} {D' : DataW LA} (hm : OM W eb c' D') (hg : wr.grownBy W (some eb)) :
    Inv w0 n S N T St o rb ob eb nil0 c0 D0 ks c' D' kv W := by
  obtain ⟨hr, hoo, he⟩ := h.lts
  obtain ⟨mv, h1, h2, h3⟩ := h.own
  obtain ⟨rc, hrc, _⟩ := h.row
  obtain ⟨es, cl, hes, _⟩ := h.exp
  have nr : rb ≠ eb := by rintro rfl; rw [hrc] at hes; cases hes
  have no : ob ≠ eb := by rintro rfl; rw [h1] at hes; cases hes
  have b1 := hg.block rb hr (by simpa using nr)
  have b2 := hg.block ob hoo (by simpa using no)
  refine ⟨h.keys.kept hg (.inr (own_ne h.keys hes (by intro cs f e; cases e))), hm, ?_, ⟨mv, b2.trans h1, h2, h3⟩, rowIs_of_block h.row b1, h.bel.grown hg h.bel.size (fun k hk => by cases hk; exact h.low.2.2), h.low⟩
  rcases h.shown with ⟨a1, a2, a3⟩ | ⟨a1, mb, a2, a3⟩
  · exact .inl ⟨a1, (World.cell?_of_block (w := wr) b2).trans a2, a3⟩
  · refine .inr ⟨a1, mb, (World.cell?_of_block (w := wr) b2).trans a2, OM.of_block a3 (hg.block mb a3.lt ?_)⟩
    rw [cell_of h1] at a2
    have : mv = .map (some mb) := by simpa using a2
    subst this
    simpa using h2

/-- the receiver's map is written. -/
theorem Inv.putOwn (h : Inv w0 n S N T St o rb ob eb nil0 c0 D0 ks c D kv wr) {mb c' : Nat} {D' : DataW LA} (hmb : wr.cell? ⟨ob, 3, none⟩ = some (.map (some mb))) (hnil : nil0 = false) (hm : OM W mb c' D') (hold : OM wr mb c0 D0) (hg : wr.grownBy W (some mb)) :
    Inv w0 n S N T St o rb ob eb nil0 c' D' ks c D kv W := by
  obtain ⟨hr, hoo, he⟩ := h.lts
  obtain ⟨mv, h1, h2, h3⟩ := h.own
  obtain ⟨rc, hrc, _⟩ := h.row
  obtain ⟨es, cl, hes, _⟩ := hold
  have hmv : mv = .map (some mb) := by rw [cell_of h1] at hmb; simpa using hmb
  subst hmv
  have nr : rb ≠ mb := by rintro rfl; rw [hrc] at hes; cases hes
  have no : ob ≠ mb := by rintro rfl; rw [h1] at hes; cases hes
  have ne : eb ≠ mb := by rintro rfl; exact h2 rfl
  have b1 := hg.block rb hr (by simpa using nr)
  have b2 := hg.block ob hoo (by simpa using no)
  have b3 := hg.block eb he (by simpa using ne)
  exact ⟨h.keys.kept hg (.inr (own_ne h.keys hes (by intro cs f e; cases e))), OM.of_block h.exp b3, .inr ⟨hnil, mb, (World.cell?_of_block (w := wr) b2).trans hmb, hm⟩, ⟨_, b2.trans h1, h2, h3⟩, rowIs_of_block h.row b1, h.bel.grown hg h.bel.size (fun k hk => by cases hk; exact h3 _ rfl), h.low⟩
end

/-! ### the items, of any slice -/
set_option maxHeartbeats 1000000 in
theorem build_none (ae : Option Addr) (cap : Nat) (f : Nat → Value) (id : ByteArray) (w : World) :
    Calls Ybgu.prog 4 #[.slice ae 0 cap, .string id] w fun e w' => e = .returned (.slice (some ⟨w.heap.size, 0, none⟩) (0 : Nat) (0 : Nat)) ∧ w'.rowIs w.heap.size 48 (0 * 20) f ∧ Below w.heap.size w w' := by
  have hmk : ∀ w : World, (Instr.makeSlice 24 (.int .i64 0) (.int .i64 0)).run Ybgu.prog w = .ok (.slice (some ⟨w.heap.size, 0, none⟩) 0 0) (w.alloc (.cells (madeCells (itemv false 0 ⟨#[]⟩ 0) (0 * 20)) 48)) := make_items 0 (by omega)
  go_enter Ybgu.func4, Ybgu.ntmps4
  go_wp2
  refine wp_loop_rounds 1 ?_
  rw [rounds_succ]
  go_wp2
  go_ret
  exact ⟨rfl, (made_row w 0 (fun _ _ => default)).congr (fun i hi => by omega), (Below.refl _ _).alloc (Nat.le_refl _) _⟩
end Go.Proofs.Yboneofku
