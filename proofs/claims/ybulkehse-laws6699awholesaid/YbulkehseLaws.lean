/-
  A whole struct read and stored in one step, with no unrolling.
-/
import Derived.Test.YbulkehseRows
import Derived.WalkKit
import Derived.BigQuiet
import Derived.Deep.WholeRow
import Derived.Deep.MidRow
namespace Go.Proofs.Ybulkehse
open Go.RowKit

section
variable {P : Program} {ops : Array Oper} {rest : List Oper} {op : Oper} {a : Act}

/-- a load in a region that only reads. -/
theorem wpQuiet_loadV {C : World → Prop} {Q : Act → Prop} (hw : Region.wanted op (yielded ops a.tmps) = true) (ty : TypeId) (x : Operand) (ho : op.op = .load ty x) (ad : Addr) (hx : a.eval x = .pointer (some ad)) (v : Value)
    (hrun : ∀ w, C w → (loadVar ty ad).run P w = .ok v w) (h : wpQuiet P ops C Q rest (a.put op.dst v)) : wpQuiet P ops C Q (op :: rest) a :=
  BigFrame.wpQuiet_want hw fun K hK => ⟨v, fun w hC => by
    unfold Oper.quietAt execOp
    simp only [ho, hx, Instr.loadAt, Instr.sureAddr, Sem.run_bind, Sem.run_pure, Result.andThen_ok, hrun w hC]
    exact ⟨rfl, rfl⟩, hK _ h⟩

/-- a comparison in a region that only reads. -/
theorem wpQuiet_cmp {C : World → Prop} {Q : Act → Prop} (hw : Region.wanted op (yielded ops a.tmps) = true) (b : BinOp) (ty ty' : TypeId) (x y : Operand) (ho : op.op = .binOp b ty x y ty') (vx vy : Value) (hx : a.eval x = vx) (hy : a.eval y = vy) (v : Value)
    (hg : ∀ w, (eqGuard b ty x y vx vy).run P w = .ok () w) (hrun : ∀ w, (binOp b ty vx vy).run P w = .ok v w) (h : wpQuiet P ops C Q rest (a.put op.dst v)) : wpQuiet P ops C Q (op :: rest) a :=
  BigFrame.wpQuiet_want hw fun K hK => ⟨v, fun w _ => by
    unfold Oper.quietAt execOp
    simp only [ho, hx, hy, Sem.run_bind, Sem.run_pure, Result.andThen_ok, hg w, hrun w]
    exact ⟨rfl, rfl⟩, hK _ h⟩

/-- a load at a plain region's list. -/
theorem wpList_loadV {Q : Exit → Act → World → Prop} {w : World} (hgd : op.guard = none) (ty : TypeId) (x : Operand) (ho : op.op = .load ty x) (ad : Addr) (hx : a.eval x = .pointer (some ad)) (v : Value)
    (hrun : (loadVar ty ad).run P w = .ok v w) (h : wpList P ops Q rest (a.put op.dst v) w) : wpList P ops Q (op :: rest) a w :=
  wpList_plain hgd fun _ hK => by
    unfold Oper.wp execOp
    simp only [ho, hx, Instr.loadAt, Instr.sureAddr, Sem.run_bind, Sem.run_pure, Result.andThen_ok, hrun]
    exact hK _ _ h

/-- a whole struct into the block that was made last. -/
theorem wpList_storeNew {Q : Exit → Act → World → Prop} {W : World} (hgd : op.guard = none) (hd : op.dst = none) (ty : TypeId) (x y : Operand) (ho : op.op = .store ty x y) (c c' : Array Value) (b : Nat) (hb : b = W.heap.size) (hx : a.eval x = .pointer (some ⟨b, 0, none⟩)) (hy : a.eval y = .agg c')
    (hi : (P.info? ty).map (·.size) = some c'.size) (hs : c.size = c'.size) (h1 : c'.all (·.oneCell') = true) (h : wpList P ops Q rest a (W.alloc (.cells c' ty))) : wpList P ops Q (op :: rest) a (W.alloc (.cells c ty)) :=
  wpList_plain hgd fun _ hK => by
    subst hb
    unfold Oper.wp execOp
    simp only [ho, hx, hy, Instr.storeAt, Instr.sureAddr, Sem.run_bind, Sem.run_pure, Result.andThen_ok, run_storeVar_new W ty c c' hi hs h1]
    have e : a.put op.dst undef = a := by rw [hd]; rfl
    show _
    exact hK _ _ (by rw [e]; exact h)
end

/-- the whole struct out of a block whose cells are known. -/
theorem loadVar_of (P : Program) (w : World) (ty : TypeId) (b : Nat) (F : Array Value) (d : TypeDesc) (hu : P.underlying ty = some d) (hd : d.isRow = true) (hi : (P.info? ty).map (·.size) = some F.size)
    (hc : ∀ j v, F[j]? = some v → w.cell? ⟨b, j, none⟩ = some v) : (loadVar ty ⟨b, 0, none⟩).run P w = .ok (.agg F) w := by
  have := run_loadVar_mid (P := P) w b 0 ty F.toList d (fun j v hv => by rw [Nat.zero_add]; exact hc j v (by simpa using hv)) hu hd (by simpa using hi)
  simpa using this

end Go.Proofs.Ybulkehse
