/-
  newContents: its first statement, whatever order the tape picks.
-/
import Derived.Test.YboneofktPs
namespace Go.Proofs.Yboneofkt
open Go.RowKit

set_option maxRecDepth 100000 in
def actN (xb lb gb sb mb S m E : Nat) (v0 v1 v2 v3 v4 v5 v6 v7 : Value) : Act := ⟨#[.pointer (some ⟨xb, 0, none⟩), undef, .pointer none, v5, undef, undef, undef, undef, undef, undef, undef, undef, .pointer (some ⟨xb, 0, none⟩), .pointer (some ⟨xb, 0, none⟩), v0, .pointer (some ⟨xb, 0, none⟩), .pointer (some ⟨xb, 0, none⟩), .pointer (some ⟨xb, 1, none⟩), .slice (some ⟨sb, 0, none⟩) S S, .int .i64 (S : Int), v1, .pointer (some ⟨xb, 0, none⟩), .pointer (some ⟨xb, 0, none⟩), .pointer (some ⟨xb, 0, none⟩), .pointer (some ⟨lb, 0, none⟩), .pointer (some ⟨lb, 0, none⟩), .pointer (some ⟨lb, 4, none⟩), .slice (some ⟨gb, 0, none⟩) m m, .int .i64 (m : Int), v2, .pointer (some ⟨xb, 0, none⟩), .pointer (some ⟨xb, 0, none⟩), .pointer (some ⟨xb, 15, none⟩), .slice (some ⟨mb, 0, none⟩) E E, .int .i64 (E : Int), v3, .pointer (some ⟨xb, 0, none⟩), .pointer (some ⟨xb, 0, none⟩), .pointer (some ⟨xb, 15, none⟩), .slice (some ⟨mb, 0, none⟩) E E, .int .i64 (E : Int), v4, v6, v7, undef, undef, undef, undef, undef, undef, undef, undef, undef, undef, undef, undef, undef, undef, undef, undef, undef, undef, undef, undef, undef, undef, undef, undef, undef, undef, undef, undef, undef, undef, undef, undef, undef, undef, undef, undef, undef, undef, undef, undef, undef, undef, undef, undef, undef, undef, undef, undef, undef, undef, undef, undef, undef, undef, undef, undef, undef, undef, undef, undef, undef, undef, undef, undef, undef, undef, undef, undef, undef, undef, undef, undef, undef, undef, undef, undef, undef, undef, undef, undef, undef, undef, undef, undef, undef, undef, undef, undef, undef, undef, undef, undef, undef, undef, undef, undef, undef, undef, undef, undef, undef, undef, undef], []⟩
def lstN (d0 d1 d2 d3 d4 d5 d6 d7 d8 : Bool) : Array Bool := #[true, true, d0, true, true, true, true, true, d1, true, true, true, true, true, true, true, true, d2, true, true, true, true, true, d3, true, true, true, true, true, d4, d6, d7, d5, d8]

theorem Rw.ne {w : World} {b b' T T' n n' : Nat} {f g : Nat → Value} (h : Rw w b T n f) (k : Rw w b' T' n' g) (ht : T ≠ T') : b ≠ b' := by
  rintro rfl
  obtain ⟨c, h1, _⟩ := h
  obtain ⟨c', h2, _⟩ := k
  rw [h1] at h2
  cases h2
  exact ht rfl

/-- a made row under a slice. -/
def Made (W : World) (H T n : Nat) (z v : Value) : Prop := ∃ b, v = .slice (some ⟨b, 0, none⟩) n n ∧ H ≤ b ∧ Rw W b T n (fun _ => z)
theorem Made.grow {W W' : World} {H T n : Nat} {z v : Value} (h : Made W H T n z v) (hb : Below W.heap.size W W') : Made W' H T n z v := by
  obtain ⟨b, h1, h2, h3⟩ := h
  exact ⟨b, h1, h2, h3.below hb h3.lt⟩
theorem Made.new (W : World) (H T n : Nat) (z : Value) (hH : H ≤ W.heap.size) : Made (W.alloc (.cells (madeCells #[z] n) T)) H T n z (.slice (some ⟨W.heap.size, 0, none⟩) n n) := ⟨W.heap.size, rfl, hH, Rw.ofIs (World.rowIs_made W z n T)⟩

/-- what has come up so far. -/
structure R1 (w0 : World) (cn : Nat → Nat) (S m E : Nat) (d0 d1 d2 d3 d4 d5 : Bool) (v0 v1 v2 v3 v4 v5 : Value) (W : World) : Prop where
  bel : Below w0.heap.size w0 W
  g0 : d0 = true → W.ownsRow w0.heap.size 21 1 v0 (rdl cn S).length (i32s (rdl cn S))
  g1 : d1 = true → Made W w0.heap.size 24 S (.slice none 0 0) v1
  g2 : d2 = true → Made W w0.heap.size 21 m (.int .i32 0) v2
  g3 : d3 = true → Made W w0.heap.size 21 E (.int .i32 0) v3
  g4 : d4 = true → Made W w0.heap.size 3 E (.int .i64 0) v4
  g5 : d5 = true → ∃ b, v5 = .pointer (some ⟨b, 0, none⟩) ∧ w0.heap.size ≤ b ∧ W.heap[b]? = some (.cells #[.pointer none] 50)
  a02 : d0 = true → d2 = true → ∀ k, v0.ownBlock = some k → v2.ownBlock ≠ some k
  a23 : d2 = true → d3 = true → v2.ownBlock ≠ v3.ownBlock

theorem own_below {w w' : World} {base e size n : Nat} {v : Value} {xs : List Value} (h : w.ownsRow base e size v n xs) (hb : Below w.heap.size w w') : w'.ownsRow base e size v n xs := by
  refine ⟨h.1, ?_⟩
  rcases h.2 with hn | ⟨g, cap, cur, h1, h2, h3, h4⟩
  · exact .inl hn
  · exact .inr ⟨g, cap, cur, h1, h2, (hb.block g (Array.getElem?_eq_some_iff.1 h3).1).trans h3, h4⟩

theorem own_mono {w : World} {base base' e size n : Nat} {v : Value} {xs : List Value} (h : w.ownsRow base e size v n xs) (hb : base' ≤ base) : w.ownsRow base' e size v n xs := by
  refine ⟨h.1, ?_⟩
  rcases h.2 with hn | ⟨g, cap, cur, h1, h2, h3, h4⟩
  · exact .inl hn
  · exact .inr ⟨g, cap, cur, h1, Nat.le_trans hb h2, h3, h4⟩
theorem own_form {w : World} {base e size n : Nat} {v : Value} {xs : List Value} (h : w.ownsRow base e size v n xs) : ∃ p k c, v = .slice p k c := by
  rcases h.2 with ⟨rfl, _⟩ | ⟨g, cap, cur, rfl, _⟩
  · exact ⟨_, _, _, rfl⟩
  · exact ⟨_, _, _, rfl⟩

theorem R1.grow {w0 : World} {cn : Nat → Nat} {S m E : Nat} {d0 d1 d2 d3 d4 d5 : Bool} {v0 v1 v2 v3 v4 v5 : Value} {W W' : World} (h : R1 w0 cn S m E d0 d1 d2 d3 d4 d5 v0 v1 v2 v3 v4 v5 W) (hb : Below W.heap.size W W') : R1 w0 cn S m E d0 d1 d2 d3 d4 d5 v0 v1 v2 v3 v4 v5 W' :=
  { bel := h.bel.trans (hb.mono h.bel.size)
    g0 := fun e => own_below (h.g0 e) hb
    g1 := fun e => (h.g1 e).grow hb
    g2 := fun e => (h.g2 e).grow hb
    g3 := fun e => (h.g3 e).grow hb
    g4 := fun e => (h.g4 e).grow hb
    g5 := fun e => by
      obtain ⟨b, h1, h2, h3⟩ := h.g5 e
      exact ⟨b, h1, h2, (hb.block b (Array.getElem?_eq_some_iff.1 h3).1).trans h3⟩
    a02 := h.a02
    a23 := h.a23 }

theorem Made.blk {W : World} {H T n : Nat} {z v : Value} (h : Made W H T n z v) : ∃ b, v.ownBlock = some b ∧ b < W.heap.size := by
  obtain ⟨b, h1, _, h3⟩ := h
  exact ⟨b, by rw [h1]; rfl, h3.lt⟩

/-- the memory behind the first statement. -/
def AfterR1 (w0 : World) (cn : Nat → Nat) (S m E xb : Nat) (v5 : Value) (W : World) : Prop := ∃ (v0 v1 v2 v3 v4 : Value) (cv ct : Nat), R1 w0 cn S m E true true true true true false v0 v1 v2 v3 v4 v5 W ∧ v5 = .pointer (some ⟨cv, 0, none⟩) ∧ w0.heap.size ≤ cv ∧ w0.heap.size ≤ ct ∧
  W.heap[cv]? = some (.cells #[.pointer (some ⟨ct, 0, none⟩)] 50) ∧ W.heap[ct]? = some (.cells #[.pointer (some ⟨xb, 0, none⟩), v0, v1, v2, v3, v4] 54)

section
variable {w0 : World} {cn : Nat → Nat} {S m E : Nat} {d0 d1 d2 d3 d4 d5 : Bool} {v0 v1 v2 v3 v4 v5 : Value} {W W' : World}
theorem below_alloc (W : World) (o : Obj) : Below W.heap.size W (W.alloc o) := (Below.refl _ W).alloc (Nat.le_refl _) o
theorem R1.set0 (h : R1 w0 cn S m E d0 d1 d2 d3 d4 d5 v0 v1 v2 v3 v4 v5 W) {v : Value} (ho : W'.ownsRow W.heap.size 21 1 v (rdl cn S).length (i32s (rdl cn S))) (hb : Below W.heap.size W W') : R1 w0 cn S m E true d1 d2 d3 d4 d5 v v1 v2 v3 v4 v5 W' :=
  { h.grow hb with
    g0 := fun _ => own_mono ho h.bel.size
    a02 := fun _ e2 k hk hk2 => by
      obtain ⟨b, h1, h2⟩ := (h.g2 e2).blk
      have := (ho.lt k hk).1
      rw [h1] at hk2
      cases hk2
      omega }
theorem R1.set1 (h : R1 w0 cn S m E d0 d1 d2 d3 d4 d5 v0 v1 v2 v3 v4 v5 W) : R1 w0 cn S m E d0 true d2 d3 d4 d5 v0 (.slice (some ⟨W.heap.size, 0, none⟩) S S) v2 v3 v4 v5 (W.alloc (.cells (madeCells #[.slice none 0 0] S) 24)) :=
  { h.grow (below_alloc W _) with g1 := fun _ => Made.new W _ 24 S _ h.bel.size }
theorem R1.set2 (h : R1 w0 cn S m E d0 d1 d2 d3 d4 d5 v0 v1 v2 v3 v4 v5 W) : R1 w0 cn S m E d0 d1 true d3 d4 d5 v0 v1 (.slice (some ⟨W.heap.size, 0, none⟩) m m) v3 v4 v5 (W.alloc (.cells (madeCells #[.int .i32 0] m) 21)) :=
  { h.grow (below_alloc W _) with
    g2 := fun _ => Made.new W _ 21 m _ h.bel.size
    a02 := fun e0 _ k hk hk2 => by
      have := ((h.g0 e0).lt k hk).2
      simp [Value.ownBlock] at hk2
      omega
    a23 := fun _ e3 hk => by
      obtain ⟨b, h1, h2⟩ := (h.g3 e3).blk
      rw [h1] at hk
      simp [Value.ownBlock] at hk
      omega }
theorem R1.set3 (h : R1 w0 cn S m E d0 d1 d2 d3 d4 d5 v0 v1 v2 v3 v4 v5 W) : R1 w0 cn S m E d0 d1 d2 true d4 d5 v0 v1 v2 (.slice (some ⟨W.heap.size, 0, none⟩) E E) v4 v5 (W.alloc (.cells (madeCells #[.int .i32 0] E) 21)) :=
  { h.grow (below_alloc W _) with
    g3 := fun _ => Made.new W _ 21 E _ h.bel.size
    a23 := fun e2 _ hk => by
      obtain ⟨b, h1, h2⟩ := (h.g2 e2).blk
      rw [h1] at hk
      simp [Value.ownBlock] at hk
      omega }
theorem R1.set4 (h : R1 w0 cn S m E d0 d1 d2 d3 d4 d5 v0 v1 v2 v3 v4 v5 W) : R1 w0 cn S m E d0 d1 d2 d3 true d5 v0 v1 v2 v3 (.slice (some ⟨W.heap.size, 0, none⟩) E E) v5 (W.alloc (.cells (madeCells #[.int .i64 0] E) 3)) :=
  { h.grow (below_alloc W _) with g4 := fun _ => Made.new W _ 3 E _ h.bel.size }
theorem heap_new (w : World) (o : Obj) : (w.alloc o).heap[w.heap.size]? = some o := by
  show (w.heap.push o)[w.heap.size]? = _
  simp
theorem R1.set5 (h : R1 w0 cn S m E d0 d1 d2 d3 d4 d5 v0 v1 v2 v3 v4 v5 W) : R1 w0 cn S m E d0 d1 d2 d3 d4 true v0 v1 v2 v3 v4 (.pointer (some ⟨W.heap.size, 0, none⟩)) (W.alloc (.cells #[.pointer none] 50)) :=
  { h.grow (below_alloc W _) with g5 := fun _ => ⟨W.heap.size, rfl, h.bel.size, heap_new W _⟩ }
end

theorem ne_of_nonempty {rs : List Nat} (h : rs.isEmpty = false) : rs ≠ [] := by rintro rfl; simp at h
theorem AfterR1.bel {w0 : World} {cn : Nat → Nat} {S m E xb : Nat} {v5 : Value} {W : World} (h : AfterR1 w0 cn S m E xb v5 W) : Below w0.heap.size w0 W := by
  obtain ⟨_, _, _, _, _, _, _, h, _⟩ := h
  exact h.bel
theorem block_ne {w : World} {b b' T T' : Nat} {c c' : Array Value} (h : w.heap[b]? = some (.cells c T)) (k : w.heap[b']? = some (.cells c' T')) (ht : T ≠ T') : b ≠ b' := by
  rintro rfl
  rw [h] at k
  cases k
  exact ht rfl
theorem Rw.ne_block {w : World} {b b' T T' n : Nat} {f : Nat → Value} {c : Array Value} (h : Rw w b T n f) (k : w.heap[b']? = some (.cells c T')) (ht : T ≠ T') : b ≠ b' := by
  obtain ⟨c', h1, _⟩ := h
  exact block_ne h1 k ht
theorem Made.set {W : World} {H T n : Nat} {z v : Value} (h : Made W H T n z v) {b' T' : Nat} {c : Array Value} (k : W.heap[b']? = some (.cells c T')) (ht : T ≠ T') (i : Nat) (u : Value) : Made (W.setCell ⟨b', i, none⟩ u) H T n z v := by
  obtain ⟨b, h1, h2, h3⟩ := h
  exact ⟨b, h1, h2, h3.setOther (h3.ne_block k ht) u⟩
theorem own_set {w : World} {base e n : Nat} {v : Value} {xs : List Value} (h : w.ownsRow base e 1 v n xs) {b' T' : Nat} {c : Array Value} (k : w.heap[b']? = some (.cells c T')) (ht : e ≠ T') (i : Nat) (u : Value) : (w.setCell ⟨b', i, none⟩ u).ownsRow base e 1 v n xs := by
  refine ⟨h.1, ?_⟩
  rcases h.2 with hn | ⟨g, cap, cur, h1, h2, h3, h4⟩
  · exact .inl hn
  · exact .inr ⟨g, cap, cur, h1, h2, (Below.heap_setCell w ⟨b', i, none⟩ u g (block_ne h3 k ht)).trans h3, h4⟩
theorem R1.store {w0 : World} {cn : Nat → Nat} {S m E xb : Nat} {v0 v1 v2 v3 v4 v5 : Value} {W : World} {cv ct : Nat} (h : R1 w0 cn S m E true true true true true true v0 v1 v2 v3 v4 v5 W) (hv : w0.heap.size ≤ cv) (hcv : W.heap[cv]? = some (.cells #[.pointer none] 50)) (hct : w0.heap.size ≤ ct) (hcc : W.heap[ct]? = some (.cells #[.pointer (some ⟨xb, 0, none⟩), v0, v1, v2, v3, v4] 54)) :
    AfterR1 w0 cn S m E xb (.pointer (some ⟨cv, 0, none⟩)) (W.setCell ⟨cv, 0, none⟩ (.pointer (some ⟨ct, 0, none⟩))) := by
  refine ⟨v0, v1, v2, v3, v4, cv, ct, ⟨h.bel.setCell hv _, fun e => own_set (h.g0 e) hcv (by decide) _ _, fun e => (h.g1 e).set hcv (by decide) _ _, fun e => (h.g2 e).set hcv (by decide) _ _, fun e => (h.g3 e).set hcv (by decide) _ _, fun e => (h.g4 e).set hcv (by decide) _ _, (fun h => by cases h), h.a02, h.a23⟩, rfl, hv, hct, ?_, ?_⟩
  · simp [World.setCell, Array.getElem?_modify, hcv]
  · exact (Below.heap_setCell W ⟨cv, 0, none⟩ _ ct (Ne.symm (block_ne hcv hcc (by decide)))).trans hcc

theorem mem_chk {rs : List Nat} {chk : Nat → Bool} {i : Nat} (hi : i ∈ rs) (h : rs.all chk = true) : chk i = true := List.all_eq_true.1 h i hi

/-- the whole invariant of the region. -/
def InvN (w0 : World) (cn : Nat → Nat) (xb lb gb sb mb S m E : Nat) (l : Array Bool) (a : Act) (W : World) : Prop :=
  (∃ d0 d1 d2 d3 d4 d5 v0 v1 v2 v3 v4 v5, l = lstN d0 d1 d2 d3 d4 d5 false false false ∧ a = actN xb lb gb sb mb S m E v0 v1 v2 v3 v4 v5 undef undef ∧ R1 w0 cn S m E d0 d1 d2 d3 d4 d5 v0 v1 v2 v3 v4 v5 W) ∨
  (∃ d5 v0 v1 v2 v3 v4 v5, l = lstN true true true true true d5 true false false ∧ a = actN xb lb gb sb mb S m E v0 v1 v2 v3 v4 v5 (.agg #[.pointer (some ⟨xb, 0, none⟩), v0, v1, v2, v3, v4]) undef ∧ R1 w0 cn S m E true true true true true d5 v0 v1 v2 v3 v4 v5 W) ∨
  (∃ d5 v0 v1 v2 v3 v4 v5 ct, l = lstN true true true true true d5 true true false ∧ a = actN xb lb gb sb mb S m E v0 v1 v2 v3 v4 v5 (.agg #[.pointer (some ⟨xb, 0, none⟩), v0, v1, v2, v3, v4]) (.pointer (some ⟨ct, 0, none⟩)) ∧ R1 w0 cn S m E true true true true true d5 v0 v1 v2 v3 v4 v5 W ∧ w0.heap.size ≤ ct ∧ W.heap[ct]? = some (.cells #[.pointer (some ⟨xb, 0, none⟩), v0, v1, v2, v3, v4] 54)) ∨
  (∃ v0 v1 v2 v3 v4 v5 v6 v7, l = lstN true true true true true true true true true ∧ a = actN xb lb gb sb mb S m E v0 v1 v2 v3 v4 v5 v6 v7 ∧ AfterR1 w0 cn S m E xb v5 W)

/-- what the rest of newContents is asked. -/
def AtN2 (p : Ps) (w : World) (R : Ending → World → Prop) : Prop :=
  ∀ (v3 : Value) (W : World), AfterR1 w p.cn p.S p.m p.E p.xb v3 W → ∀ (u1 u4 u5 u6 u7 u8 u9 u10 u11 u12 u13 u14 u15 u16 u17 u18 u19 u20 u21 u22 u23 u24 u25 u26 u27 u28 u29 u30 u31 u32 u33 u34 u35 u36 u37 u38 u39 u40 u41 u42 u43 u44 u45 u46 u47 u48 u49 u50 u51 u52 u53 u54 u55 u56 u57 u58 u59 u60 u61 u62 u63 u64 u65 u66 u67 u68 u69 u70 u71 u72 u73 u74 u75 u76 u77 u78 u79 u80 u81 u82 u83 u84 u85 u86 u87 u88 u89 u90 u91 u92 u93 u94 u95 u96 u97 u98 u99 u100 u101 u102 u103 u104 u105 u106 u107 u108 u109 u110 u111 u112 u113 u114 u115 u116 u117 u118 u119 u120 u121 u122 u123 u124 u125 u126 u127 u128 u129 u130 u131 u132 u133 u134 u135 u136 u137 u138 u139 u140 u141 u142 u143 u144 u145 u146 : Value),
    Code.wp Ybgt.prog ((Ybgt.f6.body.bind (fromR 2)).getD .skip) (bodyPost Ybgt.prog Ybgt.f6 R) ⟨#[.pointer (some ⟨p.xb, 0, none⟩), u1, .pointer none, v3, u4, u5, u6, u7, u8, u9, u10, u11, u12, u13, u14, u15, u16, u17, u18, u19, u20, u21, u22, u23, u24, u25, u26, u27, u28, u29, u30, u31, u32, u33, u34, u35, u36, u37, u38, u39, u40, u41, u42, u43, u44, u45, u46, u47, u48, u49, u50, u51, u52, u53, u54, u55, u56, u57, u58, u59, u60, u61, u62, u63, u64, u65, u66, u67, u68, u69, u70, u71, u72, u73, u74, u75, u76, u77, u78, u79, u80, u81, u82, u83, u84, u85, u86, u87, u88, u89, u90, u91, u92, u93, u94, u95, u96, u97, u98, u99, u100, u101, u102, u103, u104, u105, u106, u107, u108, u109, u110, u111, u112, u113, u114, u115, u116, u117, u118, u119, u120, u121, u122, u123, u124, u125, u126, u127, u128, u129, u130, u131, u132, u133, u134, u135, u136, u137, u138, u139, u140, u141, u142, u143, u144, u145, u146], []⟩ W

set_option maxHeartbeats 8000000 in
set_option maxRecDepth 100000 in
set_option linter.unusedSimpArgs false in
theorem stage1 (xb lb gb sb mb S m E : Nat) (cn : Nat → Nat) (rp : Nat → Option Addr) (w : World) (R : Ending → World → Prop) (hS : S ≤ 5) (hm : m ≤ 4096) (hE : E ≤ 16) (hcn : ∀ s, cn s ≤ 4096)
    (hx : xb < w.heap.size) (hl : lb < w.heap.size) (hs : sb < w.heap.size)
    (c0 : w.cell? ⟨xb, 0, none⟩ = some (.pointer (some ⟨lb, 0, none⟩))) (c1 : w.cell? ⟨xb, 1, none⟩ = some (.slice (some ⟨sb, 0, none⟩) S S)) (c15 : w.cell? ⟨xb, 15, none⟩ = some (.slice (some ⟨mb, 0, none⟩) E E)) (l4 : w.cell? ⟨lb, 4, none⟩ = some (.slice (some ⟨gb, 0, none⟩) m m))
    (cs : ∀ s, s < S → w.cell? ⟨sb, s * 5 + 2, none⟩ = some (.slice (rp s) (cn s) (cn s)))
    (p : Ps) (HNEXT : AtN2 p w R) (HP : Hid (p.xb = xb ∧ p.S = S ∧ p.m = m ∧ p.E = E ∧ p.cn = cn)) :
    Calls Ybgt.prog 6 #[.pointer (some ⟨xb, 0, none⟩)] w R := by
  have HCS : Hid (∀ s, s < S → w.cell? ⟨sb, s * 5 + 2, none⟩ = some (.slice (rp s) (cn s) (cn s))) := cs
  clear cs
  go_enter Ybgt.func6, Ybgt.ntmps6
  go_wp2
  go_cut [3] (fun v3 wc => AfterR1 w cn S m E xb v3 wc)
  case first =>
    refine wp_region_held_drew (S := fun w' => Below w.heap.size w w') (by kernel_rfl) (Below.refl _ _).drew (fun hHeld => ?_)
    refine wpAnyH_take (i := 0) (v := .pointer (some ⟨xb, 0, none⟩)) rfl (by kernel_rfl) (by kernel_rfl) (by kernel_rfl) (fun _ _ _ h => h) (Or.inl ⟨by rfl, ?_⟩) hHeld ?_
    · intro w' hSw
      have k0 := (hSw.cell (p := ⟨xb, 0, none⟩) hx).trans c0
      have k1 := (hSw.cell (p := ⟨xb, 1, none⟩) hx).trans c1
      have k15 := (hSw.cell (p := ⟨xb, 15, none⟩) hx).trans c15
      have k4 := (hSw.cell (p := ⟨lb, 4, none⟩) hl).trans l4
      clear c0 c1 c15 l4 hSw
      simp only [List.getElem_toArray, List.getElem_cons_zero, List.getElem_cons_succ]
      go_simp
    simp only [List.getElem_toArray, List.getElem_cons_zero, List.getElem_cons_succ, Act.put, List.setIfInBounds_toArray, List.set_cons_zero, List.set_cons_succ]
    refine wpAnyH_take (i := 1) (v := .pointer (some ⟨xb, 0, none⟩)) rfl (by kernel_rfl) (by kernel_rfl) (by kernel_rfl) (fun _ _ _ h => h) (Or.inl ⟨by rfl, ?_⟩) hHeld ?_
    · intro w' hSw
      have k0 := (hSw.cell (p := ⟨xb, 0, none⟩) hx).trans c0
      have k1 := (hSw.cell (p := ⟨xb, 1, none⟩) hx).trans c1
      have k15 := (hSw.cell (p := ⟨xb, 15, none⟩) hx).trans c15
      have k4 := (hSw.cell (p := ⟨lb, 4, none⟩) hl).trans l4
      clear c0 c1 c15 l4 hSw
      simp only [List.getElem_toArray, List.getElem_cons_zero, List.getElem_cons_succ]
      go_simp
    simp only [List.getElem_toArray, List.getElem_cons_zero, List.getElem_cons_succ, Act.put, List.setIfInBounds_toArray, List.set_cons_zero, List.set_cons_succ]
    refine wpAnyH_take (i := 3) (v := .pointer (some ⟨xb, 0, none⟩)) rfl (by kernel_rfl) (by kernel_rfl) (by kernel_rfl) (fun _ _ _ h => h) (Or.inl ⟨by rfl, ?_⟩) hHeld ?_
    · intro w' hSw
      have k0 := (hSw.cell (p := ⟨xb, 0, none⟩) hx).trans c0
      have k1 := (hSw.cell (p := ⟨xb, 1, none⟩) hx).trans c1
      have k15 := (hSw.cell (p := ⟨xb, 15, none⟩) hx).trans c15
      have k4 := (hSw.cell (p := ⟨lb, 4, none⟩) hl).trans l4
      clear c0 c1 c15 l4 hSw
      simp only [List.getElem_toArray, List.getElem_cons_zero, List.getElem_cons_succ]
      go_simp
    simp only [List.getElem_toArray, List.getElem_cons_zero, List.getElem_cons_succ, Act.put, List.setIfInBounds_toArray, List.set_cons_zero, List.set_cons_succ]
    refine wpAnyH_take (i := 4) (v := .pointer (some ⟨xb, 0, none⟩)) rfl (by kernel_rfl) (by kernel_rfl) (by kernel_rfl) (fun _ _ _ h => h) (Or.inl ⟨by rfl, ?_⟩) hHeld ?_
    · intro w' hSw
      have k0 := (hSw.cell (p := ⟨xb, 0, none⟩) hx).trans c0
      have k1 := (hSw.cell (p := ⟨xb, 1, none⟩) hx).trans c1
      have k15 := (hSw.cell (p := ⟨xb, 15, none⟩) hx).trans c15
      have k4 := (hSw.cell (p := ⟨lb, 4, none⟩) hl).trans l4
      clear c0 c1 c15 l4 hSw
      simp only [List.getElem_toArray, List.getElem_cons_zero, List.getElem_cons_succ]
      go_simp
    simp only [List.getElem_toArray, List.getElem_cons_zero, List.getElem_cons_succ, Act.put, List.setIfInBounds_toArray, List.set_cons_zero, List.set_cons_succ]
    refine wpAnyH_take (i := 5) (v := .pointer (some ⟨xb, 1, none⟩)) rfl (by kernel_rfl) (by kernel_rfl) (by kernel_rfl) (fun _ _ _ h => h) (Or.inl ⟨by rfl, ?_⟩) hHeld ?_
    · intro w' hSw
      have k0 := (hSw.cell (p := ⟨xb, 0, none⟩) hx).trans c0
      have k1 := (hSw.cell (p := ⟨xb, 1, none⟩) hx).trans c1
      have k15 := (hSw.cell (p := ⟨xb, 15, none⟩) hx).trans c15
      have k4 := (hSw.cell (p := ⟨lb, 4, none⟩) hl).trans l4
      clear c0 c1 c15 l4 hSw
      simp only [List.getElem_toArray, List.getElem_cons_zero, List.getElem_cons_succ]
      go_simp
    simp only [List.getElem_toArray, List.getElem_cons_zero, List.getElem_cons_succ, Act.put, List.setIfInBounds_toArray, List.set_cons_zero, List.set_cons_succ]
    refine wpAnyH_take (i := 6) (v := .slice (some ⟨sb, 0, none⟩) S S) rfl (by kernel_rfl) (by kernel_rfl) (by kernel_rfl) (fun _ _ _ h => h) (Or.inl ⟨by rfl, ?_⟩) hHeld ?_
    · intro w' hSw
      have k0 := (hSw.cell (p := ⟨xb, 0, none⟩) hx).trans c0
      have k1 := (hSw.cell (p := ⟨xb, 1, none⟩) hx).trans c1
      have k15 := (hSw.cell (p := ⟨xb, 15, none⟩) hx).trans c15
      have k4 := (hSw.cell (p := ⟨lb, 4, none⟩) hl).trans l4
      clear c0 c1 c15 l4 hSw
      simp only [List.getElem_toArray, List.getElem_cons_zero, List.getElem_cons_succ]
      go_simp
    simp only [List.getElem_toArray, List.getElem_cons_zero, List.getElem_cons_succ, Act.put, List.setIfInBounds_toArray, List.set_cons_zero, List.set_cons_succ]
    refine wpAnyH_take (i := 7) (v := .int .i64 (S : Int)) rfl (by kernel_rfl) (by kernel_rfl) (by kernel_rfl) (fun _ _ _ h => h) (Or.inl ⟨by rfl, ?_⟩) hHeld ?_
    · intro w' hSw
      have k0 := (hSw.cell (p := ⟨xb, 0, none⟩) hx).trans c0
      have k1 := (hSw.cell (p := ⟨xb, 1, none⟩) hx).trans c1
      have k15 := (hSw.cell (p := ⟨xb, 15, none⟩) hx).trans c15
      have k4 := (hSw.cell (p := ⟨lb, 4, none⟩) hl).trans l4
      clear c0 c1 c15 l4 hSw
      simp only [List.getElem_toArray, List.getElem_cons_zero, List.getElem_cons_succ]
      go_simp
    simp only [List.getElem_toArray, List.getElem_cons_zero, List.getElem_cons_succ, Act.put, List.setIfInBounds_toArray, List.set_cons_zero, List.set_cons_succ]
    refine wpAnyH_take (i := 9) (v := .pointer (some ⟨xb, 0, none⟩)) rfl (by kernel_rfl) (by kernel_rfl) (by kernel_rfl) (fun _ _ _ h => h) (Or.inl ⟨by rfl, ?_⟩) hHeld ?_
    · intro w' hSw
      have k0 := (hSw.cell (p := ⟨xb, 0, none⟩) hx).trans c0
      have k1 := (hSw.cell (p := ⟨xb, 1, none⟩) hx).trans c1
      have k15 := (hSw.cell (p := ⟨xb, 15, none⟩) hx).trans c15
      have k4 := (hSw.cell (p := ⟨lb, 4, none⟩) hl).trans l4
      clear c0 c1 c15 l4 hSw
      simp only [List.getElem_toArray, List.getElem_cons_zero, List.getElem_cons_succ]
      go_simp
    simp only [List.getElem_toArray, List.getElem_cons_zero, List.getElem_cons_succ, Act.put, List.setIfInBounds_toArray, List.set_cons_zero, List.set_cons_succ]
    refine wpAnyH_take (i := 10) (v := .pointer (some ⟨xb, 0, none⟩)) rfl (by kernel_rfl) (by kernel_rfl) (by kernel_rfl) (fun _ _ _ h => h) (Or.inl ⟨by rfl, ?_⟩) hHeld ?_
    · intro w' hSw
      have k0 := (hSw.cell (p := ⟨xb, 0, none⟩) hx).trans c0
      have k1 := (hSw.cell (p := ⟨xb, 1, none⟩) hx).trans c1
      have k15 := (hSw.cell (p := ⟨xb, 15, none⟩) hx).trans c15
      have k4 := (hSw.cell (p := ⟨lb, 4, none⟩) hl).trans l4
      clear c0 c1 c15 l4 hSw
      simp only [List.getElem_toArray, List.getElem_cons_zero, List.getElem_cons_succ]
      go_simp
    simp only [List.getElem_toArray, List.getElem_cons_zero, List.getElem_cons_succ, Act.put, List.setIfInBounds_toArray, List.set_cons_zero, List.set_cons_succ]
    refine wpAnyH_take (i := 11) (v := .pointer (some ⟨xb, 0, none⟩)) rfl (by kernel_rfl) (by kernel_rfl) (by kernel_rfl) (fun _ _ _ h => h) (Or.inl ⟨by rfl, ?_⟩) hHeld ?_
    · intro w' hSw
      have k0 := (hSw.cell (p := ⟨xb, 0, none⟩) hx).trans c0
      have k1 := (hSw.cell (p := ⟨xb, 1, none⟩) hx).trans c1
      have k15 := (hSw.cell (p := ⟨xb, 15, none⟩) hx).trans c15
      have k4 := (hSw.cell (p := ⟨lb, 4, none⟩) hl).trans l4
      clear c0 c1 c15 l4 hSw
      simp only [List.getElem_toArray, List.getElem_cons_zero, List.getElem_cons_succ]
      go_simp
    simp only [List.getElem_toArray, List.getElem_cons_zero, List.getElem_cons_succ, Act.put, List.setIfInBounds_toArray, List.set_cons_zero, List.set_cons_succ]
    refine wpAnyH_take (i := 12) (v := .pointer (some ⟨lb, 0, none⟩)) rfl (by kernel_rfl) (by kernel_rfl) (by kernel_rfl) (fun _ _ _ h => h) (Or.inl ⟨by rfl, ?_⟩) hHeld ?_
    · intro w' hSw
      have k0 := (hSw.cell (p := ⟨xb, 0, none⟩) hx).trans c0
      have k1 := (hSw.cell (p := ⟨xb, 1, none⟩) hx).trans c1
      have k15 := (hSw.cell (p := ⟨xb, 15, none⟩) hx).trans c15
      have k4 := (hSw.cell (p := ⟨lb, 4, none⟩) hl).trans l4
      clear c0 c1 c15 l4 hSw
      simp only [List.getElem_toArray, List.getElem_cons_zero, List.getElem_cons_succ]
      go_simp
    simp only [List.getElem_toArray, List.getElem_cons_zero, List.getElem_cons_succ, Act.put, List.setIfInBounds_toArray, List.set_cons_zero, List.set_cons_succ]
    refine wpAnyH_take (i := 13) (v := .pointer (some ⟨lb, 0, none⟩)) rfl (by kernel_rfl) (by kernel_rfl) (by kernel_rfl) (fun _ _ _ h => h) (Or.inl ⟨by rfl, ?_⟩) hHeld ?_
    · intro w' hSw
      have k0 := (hSw.cell (p := ⟨xb, 0, none⟩) hx).trans c0
      have k1 := (hSw.cell (p := ⟨xb, 1, none⟩) hx).trans c1
      have k15 := (hSw.cell (p := ⟨xb, 15, none⟩) hx).trans c15
      have k4 := (hSw.cell (p := ⟨lb, 4, none⟩) hl).trans l4
      clear c0 c1 c15 l4 hSw
      simp only [List.getElem_toArray, List.getElem_cons_zero, List.getElem_cons_succ]
      go_simp
    simp only [List.getElem_toArray, List.getElem_cons_zero, List.getElem_cons_succ, Act.put, List.setIfInBounds_toArray, List.set_cons_zero, List.set_cons_succ]
    refine wpAnyH_take (i := 14) (v := .pointer (some ⟨lb, 4, none⟩)) rfl (by kernel_rfl) (by kernel_rfl) (by kernel_rfl) (fun _ _ _ h => h) (Or.inl ⟨by rfl, ?_⟩) hHeld ?_
    · intro w' hSw
      have k0 := (hSw.cell (p := ⟨xb, 0, none⟩) hx).trans c0
      have k1 := (hSw.cell (p := ⟨xb, 1, none⟩) hx).trans c1
      have k15 := (hSw.cell (p := ⟨xb, 15, none⟩) hx).trans c15
      have k4 := (hSw.cell (p := ⟨lb, 4, none⟩) hl).trans l4
      clear c0 c1 c15 l4 hSw
      simp only [List.getElem_toArray, List.getElem_cons_zero, List.getElem_cons_succ]
      go_simp
    simp only [List.getElem_toArray, List.getElem_cons_zero, List.getElem_cons_succ, Act.put, List.setIfInBounds_toArray, List.set_cons_zero, List.set_cons_succ]
    refine wpAnyH_take (i := 15) (v := .slice (some ⟨gb, 0, none⟩) m m) rfl (by kernel_rfl) (by kernel_rfl) (by kernel_rfl) (fun _ _ _ h => h) (Or.inl ⟨by rfl, ?_⟩) hHeld ?_
    · intro w' hSw
      have k0 := (hSw.cell (p := ⟨xb, 0, none⟩) hx).trans c0
      have k1 := (hSw.cell (p := ⟨xb, 1, none⟩) hx).trans c1
      have k15 := (hSw.cell (p := ⟨xb, 15, none⟩) hx).trans c15
      have k4 := (hSw.cell (p := ⟨lb, 4, none⟩) hl).trans l4
      clear c0 c1 c15 l4 hSw
      simp only [List.getElem_toArray, List.getElem_cons_zero, List.getElem_cons_succ]
      go_simp
    simp only [List.getElem_toArray, List.getElem_cons_zero, List.getElem_cons_succ, Act.put, List.setIfInBounds_toArray, List.set_cons_zero, List.set_cons_succ]
    refine wpAnyH_take (i := 16) (v := .int .i64 (m : Int)) rfl (by kernel_rfl) (by kernel_rfl) (by kernel_rfl) (fun _ _ _ h => h) (Or.inl ⟨by rfl, ?_⟩) hHeld ?_
    · intro w' hSw
      have k0 := (hSw.cell (p := ⟨xb, 0, none⟩) hx).trans c0
      have k1 := (hSw.cell (p := ⟨xb, 1, none⟩) hx).trans c1
      have k15 := (hSw.cell (p := ⟨xb, 15, none⟩) hx).trans c15
      have k4 := (hSw.cell (p := ⟨lb, 4, none⟩) hl).trans l4
      clear c0 c1 c15 l4 hSw
      simp only [List.getElem_toArray, List.getElem_cons_zero, List.getElem_cons_succ]
      go_simp
    simp only [List.getElem_toArray, List.getElem_cons_zero, List.getElem_cons_succ, Act.put, List.setIfInBounds_toArray, List.set_cons_zero, List.set_cons_succ]
    refine wpAnyH_take (i := 18) (v := .pointer (some ⟨xb, 0, none⟩)) rfl (by kernel_rfl) (by kernel_rfl) (by kernel_rfl) (fun _ _ _ h => h) (Or.inl ⟨by rfl, ?_⟩) hHeld ?_
    · intro w' hSw
      have k0 := (hSw.cell (p := ⟨xb, 0, none⟩) hx).trans c0
      have k1 := (hSw.cell (p := ⟨xb, 1, none⟩) hx).trans c1
      have k15 := (hSw.cell (p := ⟨xb, 15, none⟩) hx).trans c15
      have k4 := (hSw.cell (p := ⟨lb, 4, none⟩) hl).trans l4
      clear c0 c1 c15 l4 hSw
      simp only [List.getElem_toArray, List.getElem_cons_zero, List.getElem_cons_succ]
      go_simp
    simp only [List.getElem_toArray, List.getElem_cons_zero, List.getElem_cons_succ, Act.put, List.setIfInBounds_toArray, List.set_cons_zero, List.set_cons_succ]
    refine wpAnyH_take (i := 19) (v := .pointer (some ⟨xb, 0, none⟩)) rfl (by kernel_rfl) (by kernel_rfl) (by kernel_rfl) (fun _ _ _ h => h) (Or.inl ⟨by rfl, ?_⟩) hHeld ?_
    · intro w' hSw
      have k0 := (hSw.cell (p := ⟨xb, 0, none⟩) hx).trans c0
      have k1 := (hSw.cell (p := ⟨xb, 1, none⟩) hx).trans c1
      have k15 := (hSw.cell (p := ⟨xb, 15, none⟩) hx).trans c15
      have k4 := (hSw.cell (p := ⟨lb, 4, none⟩) hl).trans l4
      clear c0 c1 c15 l4 hSw
      simp only [List.getElem_toArray, List.getElem_cons_zero, List.getElem_cons_succ]
      go_simp
    simp only [List.getElem_toArray, List.getElem_cons_zero, List.getElem_cons_succ, Act.put, List.setIfInBounds_toArray, List.set_cons_zero, List.set_cons_succ]
    refine wpAnyH_take (i := 20) (v := .pointer (some ⟨xb, 15, none⟩)) rfl (by kernel_rfl) (by kernel_rfl) (by kernel_rfl) (fun _ _ _ h => h) (Or.inl ⟨by rfl, ?_⟩) hHeld ?_
    · intro w' hSw
      have k0 := (hSw.cell (p := ⟨xb, 0, none⟩) hx).trans c0
      have k1 := (hSw.cell (p := ⟨xb, 1, none⟩) hx).trans c1
      have k15 := (hSw.cell (p := ⟨xb, 15, none⟩) hx).trans c15
      have k4 := (hSw.cell (p := ⟨lb, 4, none⟩) hl).trans l4
      clear c0 c1 c15 l4 hSw
      simp only [List.getElem_toArray, List.getElem_cons_zero, List.getElem_cons_succ]
      go_simp
    simp only [List.getElem_toArray, List.getElem_cons_zero, List.getElem_cons_succ, Act.put, List.setIfInBounds_toArray, List.set_cons_zero, List.set_cons_succ]
    refine wpAnyH_take (i := 21) (v := .slice (some ⟨mb, 0, none⟩) E E) rfl (by kernel_rfl) (by kernel_rfl) (by kernel_rfl) (fun _ _ _ h => h) (Or.inl ⟨by rfl, ?_⟩) hHeld ?_
    · intro w' hSw
      have k0 := (hSw.cell (p := ⟨xb, 0, none⟩) hx).trans c0
      have k1 := (hSw.cell (p := ⟨xb, 1, none⟩) hx).trans c1
      have k15 := (hSw.cell (p := ⟨xb, 15, none⟩) hx).trans c15
      have k4 := (hSw.cell (p := ⟨lb, 4, none⟩) hl).trans l4
      clear c0 c1 c15 l4 hSw
      simp only [List.getElem_toArray, List.getElem_cons_zero, List.getElem_cons_succ]
      go_simp
    simp only [List.getElem_toArray, List.getElem_cons_zero, List.getElem_cons_succ, Act.put, List.setIfInBounds_toArray, List.set_cons_zero, List.set_cons_succ]
    refine wpAnyH_take (i := 22) (v := .int .i64 (E : Int)) rfl (by kernel_rfl) (by kernel_rfl) (by kernel_rfl) (fun _ _ _ h => h) (Or.inl ⟨by rfl, ?_⟩) hHeld ?_
    · intro w' hSw
      have k0 := (hSw.cell (p := ⟨xb, 0, none⟩) hx).trans c0
      have k1 := (hSw.cell (p := ⟨xb, 1, none⟩) hx).trans c1
      have k15 := (hSw.cell (p := ⟨xb, 15, none⟩) hx).trans c15
      have k4 := (hSw.cell (p := ⟨lb, 4, none⟩) hl).trans l4
      clear c0 c1 c15 l4 hSw
      simp only [List.getElem_toArray, List.getElem_cons_zero, List.getElem_cons_succ]
      go_simp
    simp only [List.getElem_toArray, List.getElem_cons_zero, List.getElem_cons_succ, Act.put, List.setIfInBounds_toArray, List.set_cons_zero, List.set_cons_succ]
    refine wpAnyH_take (i := 24) (v := .pointer (some ⟨xb, 0, none⟩)) rfl (by kernel_rfl) (by kernel_rfl) (by kernel_rfl) (fun _ _ _ h => h) (Or.inl ⟨by rfl, ?_⟩) hHeld ?_
    · intro w' hSw
      have k0 := (hSw.cell (p := ⟨xb, 0, none⟩) hx).trans c0
      have k1 := (hSw.cell (p := ⟨xb, 1, none⟩) hx).trans c1
      have k15 := (hSw.cell (p := ⟨xb, 15, none⟩) hx).trans c15
      have k4 := (hSw.cell (p := ⟨lb, 4, none⟩) hl).trans l4
      clear c0 c1 c15 l4 hSw
      simp only [List.getElem_toArray, List.getElem_cons_zero, List.getElem_cons_succ]
      go_simp
    simp only [List.getElem_toArray, List.getElem_cons_zero, List.getElem_cons_succ, Act.put, List.setIfInBounds_toArray, List.set_cons_zero, List.set_cons_succ]
    refine wpAnyH_take (i := 25) (v := .pointer (some ⟨xb, 0, none⟩)) rfl (by kernel_rfl) (by kernel_rfl) (by kernel_rfl) (fun _ _ _ h => h) (Or.inl ⟨by rfl, ?_⟩) hHeld ?_
    · intro w' hSw
      have k0 := (hSw.cell (p := ⟨xb, 0, none⟩) hx).trans c0
      have k1 := (hSw.cell (p := ⟨xb, 1, none⟩) hx).trans c1
      have k15 := (hSw.cell (p := ⟨xb, 15, none⟩) hx).trans c15
      have k4 := (hSw.cell (p := ⟨lb, 4, none⟩) hl).trans l4
      clear c0 c1 c15 l4 hSw
      simp only [List.getElem_toArray, List.getElem_cons_zero, List.getElem_cons_succ]
      go_simp
    simp only [List.getElem_toArray, List.getElem_cons_zero, List.getElem_cons_succ, Act.put, List.setIfInBounds_toArray, List.set_cons_zero, List.set_cons_succ]
    refine wpAnyH_take (i := 26) (v := .pointer (some ⟨xb, 15, none⟩)) rfl (by kernel_rfl) (by kernel_rfl) (by kernel_rfl) (fun _ _ _ h => h) (Or.inl ⟨by rfl, ?_⟩) hHeld ?_
    · intro w' hSw
      have k0 := (hSw.cell (p := ⟨xb, 0, none⟩) hx).trans c0
      have k1 := (hSw.cell (p := ⟨xb, 1, none⟩) hx).trans c1
      have k15 := (hSw.cell (p := ⟨xb, 15, none⟩) hx).trans c15
      have k4 := (hSw.cell (p := ⟨lb, 4, none⟩) hl).trans l4
      clear c0 c1 c15 l4 hSw
      simp only [List.getElem_toArray, List.getElem_cons_zero, List.getElem_cons_succ]
      go_simp
    simp only [List.getElem_toArray, List.getElem_cons_zero, List.getElem_cons_succ, Act.put, List.setIfInBounds_toArray, List.set_cons_zero, List.set_cons_succ]
    refine wpAnyH_take (i := 27) (v := .slice (some ⟨mb, 0, none⟩) E E) rfl (by kernel_rfl) (by kernel_rfl) (by kernel_rfl) (fun _ _ _ h => h) (Or.inl ⟨by rfl, ?_⟩) hHeld ?_
    · intro w' hSw
      have k0 := (hSw.cell (p := ⟨xb, 0, none⟩) hx).trans c0
      have k1 := (hSw.cell (p := ⟨xb, 1, none⟩) hx).trans c1
      have k15 := (hSw.cell (p := ⟨xb, 15, none⟩) hx).trans c15
      have k4 := (hSw.cell (p := ⟨lb, 4, none⟩) hl).trans l4
      clear c0 c1 c15 l4 hSw
      simp only [List.getElem_toArray, List.getElem_cons_zero, List.getElem_cons_succ]
      go_simp
    simp only [List.getElem_toArray, List.getElem_cons_zero, List.getElem_cons_succ, Act.put, List.setIfInBounds_toArray, List.set_cons_zero, List.set_cons_succ]
    refine wpAnyH_take (i := 28) (v := .int .i64 (E : Int)) rfl (by kernel_rfl) (by kernel_rfl) (by kernel_rfl) (fun _ _ _ h => h) (Or.inl ⟨by rfl, ?_⟩) hHeld ?_
    · intro w' hSw
      have k0 := (hSw.cell (p := ⟨xb, 0, none⟩) hx).trans c0
      have k1 := (hSw.cell (p := ⟨xb, 1, none⟩) hx).trans c1
      have k15 := (hSw.cell (p := ⟨xb, 15, none⟩) hx).trans c15
      have k4 := (hSw.cell (p := ⟨lb, 4, none⟩) hl).trans l4
      clear c0 c1 c15 l4 hSw
      simp only [List.getElem_toArray, List.getElem_cons_zero, List.getElem_cons_succ]
      go_simp
    simp only [List.getElem_toArray, List.getElem_cons_zero, List.getElem_cons_succ, Act.put, List.setIfInBounds_toArray, List.set_cons_zero, List.set_cons_succ]
    refine wpAnyH_inv (InvN w cn xb lb gb sb mb S m E) ?_ ?_ _ _ _ _ (Or.inl ⟨false, false, false, false, false, false, undef, undef, undef, undef, undef, undef, rfl, rfl, ⟨hHeld, (fun h => by cases h), (fun h => by cases h), (fun h => by cases h), (fun h => by cases h), (fun h => by cases h), (fun h => by cases h), (fun h => by cases h), (fun h => by cases h)⟩⟩) (by decide)
    · intro l a W hI i hi
      rcases hI with ⟨d0, d1, d2, d3, d4, d5, v0, v1, v2, v3, v4, v5, rfl, rfl, hR⟩ | ⟨d5, v0, v1, v2, v3, v4, v5, rfl, rfl, hR⟩ | ⟨d5, v0, v1, v2, v3, v4, v5, ct, rfl, rfl, hR, hct, hcc⟩ | ⟨v0, v1, v2, v3, v4, v5, v6, v7, rfl, rfl, hA⟩
      · have hck := mem_chk (chk := fun i => (i == 2 && !d0) || (i == 8 && !d1) || (i == 17 && !d2) || (i == 23 && !d3) || (i == 29 && !d4) || (i == 32 && !d5) || (i == 30 && (d0 && d1 && d2 && d3 && d4))) hi (by cases d0 <;> cases d1 <;> cases d2 <;> cases d3 <;> cases d4 <;> cases d5 <;> kernel_rfl)
        simp only [Bool.or_eq_true, Bool.and_eq_true, beq_iff_eq, Bool.not_eq_true'] at hck
        rcases hck with (((((⟨rfl, rfl⟩ | ⟨rfl, rfl⟩) | ⟨rfl, rfl⟩) | ⟨rfl, rfl⟩) | ⟨rfl, rfl⟩) | ⟨rfl, rfl⟩) | ⟨rfl, hd⟩
        · refine wpOp_step rfl (fun K hK => ?_)
          have HK : Hid _ := hK
          clear hK hi
          simp only [actN, List.getElem_toArray, List.getElem_cons_zero, List.getElem_cons_succ]
          have cx := (hR.bel.cell (p := ⟨xb, 1, none⟩) hx).trans c1
          have cs : ∀ s, s < S → W.cell? ⟨sb, s * 5 + 2, none⟩ = some (.slice (rp s) (cn s) (cn s)) := fun s hs' => (hR.bel.cell (p := ⟨sb, s * 5 + 2, none⟩) hs).trans (HCS.out s hs')
          have hsz := hR.bel.size
          have hcall := readers9 xb sb S S cn rp W hS hcn (by omega) (by omega) cx cs
          clear cx cs
          go_simp
          refine hcall.mono ?_
          rintro e w' ⟨v, rfl, ho, hb⟩
          refine HK.out _ _ ⟨(hR.set0 ho hb).bel, Or.inl ⟨true, d1, d2, d3, d4, d5, v, v1, v2, v3, v4, v5, rfl, rfl, hR.set0 ho hb⟩⟩
        · refine wpOp_step rfl (fun K hK => ?_)
          have HK : Hid _ := hK
          clear hK hi
          simp only [actN, List.getElem_toArray, List.getElem_cons_zero, List.getElem_cons_succ]
          have hmk := make52 S (by omega) W
          go_simp
          refine HK.out _ _ ⟨(hR.set1).bel, Or.inl ⟨d0, true, d2, d3, d4, d5, v0, _, v2, v3, v4, v5, rfl, rfl, hR.set1⟩⟩
        · refine wpOp_step rfl (fun K hK => ?_)
          have HK : Hid _ := hK
          clear hK hi
          simp only [actN, List.getElem_toArray, List.getElem_cons_zero, List.getElem_cons_succ]
          have hmk := make24 m (by omega) W
          go_simp
          refine HK.out _ _ ⟨(hR.set2).bel, Or.inl ⟨d0, d1, true, d3, d4, d5, v0, v1, _, v3, v4, v5, rfl, rfl, hR.set2⟩⟩
        · refine wpOp_step rfl (fun K hK => ?_)
          have HK : Hid _ := hK
          clear hK hi
          simp only [actN, List.getElem_toArray, List.getElem_cons_zero, List.getElem_cons_succ]
          have hmk := make24 E (by omega) W
          go_simp
          refine HK.out _ _ ⟨(hR.set3).bel, Or.inl ⟨d0, d1, d2, true, d4, d5, v0, v1, v2, _, v4, v5, rfl, rfl, hR.set3⟩⟩
        · refine wpOp_step rfl (fun K hK => ?_)
          have HK : Hid _ := hK
          clear hK hi
          simp only [actN, List.getElem_toArray, List.getElem_cons_zero, List.getElem_cons_succ]
          have hmk := make31 E (by omega) W
          go_simp
          refine HK.out _ _ ⟨(hR.set4).bel, Or.inl ⟨d0, d1, d2, d3, true, d5, v0, v1, v2, v3, _, v5, rfl, rfl, hR.set4⟩⟩
        · refine wpOp_step rfl (fun K hK => ?_)
          have HK : Hid _ := hK
          clear hK hi
          simp only [actN, List.getElem_toArray, List.getElem_cons_zero, List.getElem_cons_succ]
          go_simp
          refine HK.out _ _ ⟨(hR.set5).bel, Or.inl ⟨d0, d1, d2, d3, d4, true, v0, v1, v2, v3, v4, _, rfl, rfl, hR.set5⟩⟩
        · obtain ⟨⟨⟨⟨rfl, rfl⟩, rfl⟩, rfl⟩, rfl⟩ := hd
          obtain ⟨p0, k0, e0, rfl⟩ := own_form (hR.g0 rfl)
          obtain ⟨b1, rfl, _⟩ := hR.g1 rfl
          obtain ⟨b2, rfl, _⟩ := hR.g2 rfl
          obtain ⟨b3, rfl, _⟩ := hR.g3 rfl
          obtain ⟨b4, rfl, _⟩ := hR.g4 rfl
          refine wpOp_step rfl (fun K hK => ?_)
          have HK : Hid _ := hK
          clear hK hi
          simp only [actN, List.getElem_toArray, List.getElem_cons_zero, List.getElem_cons_succ]
          go_simp
          refine HK.out _ _ ⟨hR.bel, Or.inr (Or.inl ⟨d5, _, _, _, _, _, v5, rfl, rfl, hR⟩)⟩
      · have hck := mem_chk (chk := fun i => (i == 31) || (i == 32 && !d5)) hi (by cases d5 <;> kernel_rfl)
        simp only [Bool.or_eq_true, Bool.and_eq_true, beq_iff_eq, Bool.not_eq_true'] at hck
        rcases hck with rfl | ⟨rfl, rfl⟩
        · refine wpOp_step rfl (fun K hK => ?_)
          have HK : Hid _ := hK
          clear hK hi
          simp only [actN, List.getElem_toArray, List.getElem_cons_zero, List.getElem_cons_succ]
          go_simp
          have hbl := below_alloc W (.cells #[.pointer (some ⟨xb, 0, none⟩), v0, v1, v2, v3, v4] 54)
          refine HK.out _ _ ⟨(hR.grow hbl).bel, Or.inr (Or.inr (Or.inl ⟨d5, v0, v1, v2, v3, v4, v5, W.heap.size, rfl, rfl, hR.grow hbl, hR.bel.size, heap_new W _⟩))⟩
        · refine wpOp_step rfl (fun K hK => ?_)
          have HK : Hid _ := hK
          clear hK hi
          simp only [actN, List.getElem_toArray, List.getElem_cons_zero, List.getElem_cons_succ]
          go_simp
          refine HK.out _ _ ⟨hR.set5.bel, Or.inr (Or.inl ⟨true, v0, v1, v2, v3, v4, _, rfl, rfl, hR.set5⟩)⟩
      · have hck := mem_chk (chk := fun i => (i == 33 && d5) || (i == 32 && !d5)) hi (by cases d5 <;> kernel_rfl)
        simp only [Bool.or_eq_true, Bool.and_eq_true, beq_iff_eq, Bool.not_eq_true'] at hck
        rcases hck with ⟨rfl, rfl⟩ | ⟨rfl, rfl⟩
        · obtain ⟨cv, hv5, hcv, hcvb⟩ := hR.g5 rfl
          subst hv5
          have hc0 : W.cell? ⟨cv, 0, none⟩ = some (.pointer none) := by simp [World.cell?, hcvb]
          have hf0 : W.frozen? ⟨cv, 0, none⟩ = false := by simp [World.frozen?, hcvb]
          refine wpOp_step rfl (fun K hK => ?_)
          have HK : Hid _ := hK
          clear hK hi
          simp only [actN, List.getElem_toArray, List.getElem_cons_zero, List.getElem_cons_succ]
          go_simp
          have hA := hR.store hcv hcvb hct hcc
          refine HK.out _ _ ⟨hA.bel, Or.inr (Or.inr (Or.inr ⟨v0, v1, v2, v3, v4, _, _, _, rfl, rfl, hA⟩))⟩
        · refine wpOp_step rfl (fun K hK => ?_)
          have HK : Hid _ := hK
          clear hK hi
          simp only [actN, List.getElem_toArray, List.getElem_cons_zero, List.getElem_cons_succ]
          go_simp
          refine HK.out _ _ ⟨hR.set5.bel, Or.inr (Or.inr (Or.inl ⟨true, v0, v1, v2, v3, v4, _, ct, rfl, rfl, hR.set5, hct, (Below.heap_alloc _ _ _ (Array.getElem?_eq_some_iff.1 hcc).1).trans hcc⟩))⟩
      · exact absurd (mem_chk (chk := fun _ => false) hi (by kernel_rfl)) (by simp)
    · intro l a W hI hre
      rcases hI with ⟨d0, d1, d2, d3, d4, d5, v0, v1, v2, v3, v4, v5, rfl, rfl, hR⟩ | ⟨d5, v0, v1, v2, v3, v4, v5, rfl, rfl, hR⟩ | ⟨d5, v0, v1, v2, v3, v4, v5, ct, rfl, rfl, hR, hct, hcc⟩ | ⟨v0, v1, v2, v3, v4, v5, v6, v7, rfl, rfl, hA⟩
      · exact absurd hre (ne_of_nonempty (by cases d0 <;> cases d1 <;> cases d2 <;> cases d3 <;> cases d4 <;> cases d5 <;> kernel_rfl))
      · exact absurd hre (ne_of_nonempty (by cases d5 <;> kernel_rfl))
      · exact absurd hre (ne_of_nonempty (by cases d5 <;> kernel_rfl))
      · simp only [actN]
        go_wp2
        go_meet
        case rel => exact hA
  case rest =>
    rename_i hgo
    refine hgo _ _ ?_
    unfold AtN2 at HNEXT
    obtain ⟨h1, h2, h3, h4, h5⟩ := HP.out
    subst h1 h2 h3 h4 h5
    apply HNEXT _ _ hcut

theorem new1 (p : Ps) (w : World) (R : Ending → World → Prop) (hk : Ok p) (hI : NIn p w) (HNEXT : AtN2 p w R) : Calls Ybgt.prog 6 #[.pointer (some ⟨p.xb, 0, none⟩)] w R :=
  stage1 p.xb p.lb p.gb p.sb p.mb p.S p.m p.E p.cn p.rp w R hk.S hk.m hk.E hk.cn hI.xr.lt hI.lts.1 hI.lts.2.2.2.1 (by rw [hI.xr.cell (by omega), hI.F0]) (by rw [hI.xr.cell (by omega), hI.F1]) (by rw [hI.xr.cell (by omega), hI.F15]) hI.l4 hI.ses p HNEXT ⟨rfl, rfl, rfl, rfl, rfl⟩
end Go.Proofs.Yboneofkt
