/-
  '!=' at the session and at the transition: the same value twice.
-/
import Derived.Test.YbulkehseRows
import Derived.WalkKit
import Derived.WalkSpells
import Derived.WalkLawsBesides
import Derived.Laws.StructEq
import Derived.LaidEql
namespace Go.Proofs.Ybulkehse
open Go.RowKit

theorem guard41 (md cT cR : Int) (slow : Bool) (dm role : Int) (a : Addr) (lat st dg d rr : Int) (pol ad : Bool) (dmr rd rs r : Int) (hl dt : Bool) (da last next : Int) (x y : Operand) (w : World) :
    (eqGuard .neq 41 x y (.agg #[.int .u32 md, .int .i64 cT, .int .i64 cR, .bool slow, .int .u8 dm, .int .u8 role, .iface 28 (.pointer (some a)), .int .i64 lat, .int .u8 st, .int .u8 dg, .int .i64 d, .int .i64 rr, .bool pol, .bool ad, .int .i64 dmr, .int .u32 rd, .int .u8 rs, .int .i64 r, .bool hl, .bool dt, .int .i64 da, .int .i64 last, .int .i64 next])
      (.agg #[.int .u32 md, .int .i64 cT, .int .i64 cR, .bool slow, .int .u8 dm, .int .u8 role, .iface 28 (.pointer (some a)), .int .i64 lat, .int .u8 st, .int .u8 dg, .int .i64 d, .int .i64 rr, .bool pol, .bool ad, .int .i64 dmr, .int .u32 rd, .int .u8 rs, .int .i64 r, .bool hl, .bool dt, .int .i64 da, .int .i64 last, .int .i64 next])).run Yba.prog w = .ok () w := by
  kernel_rfl

theorem comp28 : ∃ i j, Yba.prog.info? 28 = some i ∧ i.comparable = true ∧ Yba.prog.info? 30 = some j := by
  have h1 : (Yba.prog.info? 28).map (fun i => i.comparable) = some true := by kernel_rfl
  have h2 : (Yba.prog.info? 30).map (fun i => i.size) = some 2 := by kernel_rfl
  obtain ⟨i, hi, hc⟩ := Option.map_eq_some_iff.1 h1
  obtain ⟨j, hj, _⟩ := Option.map_eq_some_iff.1 h2
  exact ⟨i, j, hi, hc, hj⟩

theorem eqJit (a : Addr) (w : World) : (Op.equalIn 9998 35 (.iface 28 (.pointer (some a))) (.iface 28 (.pointer (some a)))).run Yba.prog w = .ok true w := by
  obtain ⟨i, j, hi, hc, hj⟩ := comp28
  exact run_equalIn_iface_ptr_same (P := Yba.prog) w 9996 a Yba.underlying35 Yba.underlying28 hi hc hj
theorem eqNil (w : World) : (Op.equalIn 9999 46 (.pointer none) (.pointer none)).run Yba.prog w = .ok true w :=
  run_equalIn_pointer_nil (P := Yba.prog) w 9998 46 none (by kernel_rfl)

theorem neq41 (md cT cR : Int) (slow : Bool) (dm role : Int) (a : Addr) (lat st dg d rr : Int) (pol ad : Bool) (dmr rd rs r : Int) (hl dt : Bool) (da last next : Int) (w : World) :
    (binOp .neq 41 (.agg #[.int .u32 md, .int .i64 cT, .int .i64 cR, .bool slow, .int .u8 dm, .int .u8 role, .iface 28 (.pointer (some a)), .int .i64 lat, .int .u8 st, .int .u8 dg, .int .i64 d, .int .i64 rr, .bool pol, .bool ad, .int .i64 dmr, .int .u32 rd, .int .u8 rs, .int .i64 r, .bool hl, .bool dt, .int .i64 da, .int .i64 last, .int .i64 next])
      (.agg #[.int .u32 md, .int .i64 cT, .int .i64 cR, .bool slow, .int .u8 dm, .int .u8 role, .iface 28 (.pointer (some a)), .int .i64 lat, .int .u8 st, .int .u8 dg, .int .i64 d, .int .i64 rr, .bool pol, .bool ad, .int .i64 dmr, .int .u32 rd, .int .u8 rs, .int .i64 r, .bool hl, .bool dt, .int .i64 da, .int .i64 last, .int .i64 next])).run Yba.prog w = .ok (.bool false) w := by
  have hS : Yba.prog.underlying 41 = some (.struct (Yba.prog.fieldsOf 41)) := by kernel_rfl
  have hp : Yba.prog.stoodInHeld 41 = false := by kernel_rfl
  have u22 := Yba.underlying22
  have u32 := Yba.underlying32
  have u4 := Yba.underlying4
  have u38 := Yba.underlying38
  have u39 := Yba.underlying39
  have u5 := Yba.underlying5
  have u33 := Yba.underlying33
  have hif := eqJit a w
  rw [run_neq_struct, show (10000 : Nat) = 9999 + 1 from rfl, run_equalIn_agg w 9999 41 _ _ hS hp]
  simp only [Program.fieldsOf, Yba.underlying41]
  go_simp

theorem fields_step {d : Nat} {xs ys : Array Value} {f : Field} {fs : List Field} {a b : Value} {w : World} (hn : f.name ≠ "_") (ha : (part f.type xs f.offset).run Yba.prog w = .ok a w) (hb : (part f.type ys f.offset).run Yba.prog w = .ok b w) (he : (Op.equalIn d f.type a b).run Yba.prog w = .ok true w)
    (hr : (Op.eqFields d xs ys fs).run Yba.prog w = .ok true w) : (Op.eqFields d xs ys (f :: fs)).run Yba.prog w = .ok true w := by
  simp only [Op.eqFields, hn, ne_eq, not_false_eq_true, if_true, Sem.run_bind, ha, hb, he, Result.andThen_ok, Bool.not_true, Bool.false_eq_true, if_false]
  exact hr

theorem eqInt (t : TypeId) (k : IntKind) (h : Yba.prog.underlying t = some (.int k)) (n : Nat) (x : Int) (w : World) : (Op.equalIn (n + 1) t (.int k x) (.int k x)).run Yba.prog w = .ok true w := by
  simp [Op.equalIn, run_underlying h]

theorem fields48 (a b c d : Int) (n : Nat) (w : World) : (Op.eqFields (n + 1) #[.int .u8 a, .int .u8 b, .int .u8 c, .int .u32 d, .pointer none] #[.int .u8 a, .int .u8 b, .int .u8 c, .int .u32 d, .pointer none] (Yba.prog.fieldsOf 48).toList).run Yba.prog w = .ok true w := by
  simp only [Program.fieldsOf, Yba.underlying48]
  refine fields_step (by decide) (a := .int .u8 a) (b := .int .u8 a) (by kernel_rfl) (by kernel_rfl) (eqInt _ _ Yba.underlying38 n a w) ?_
  refine fields_step (by decide) (a := .int .u8 b) (b := .int .u8 b) (by kernel_rfl) (by kernel_rfl) (eqInt _ _ Yba.underlying38 n b w) ?_
  refine fields_step (by decide) (a := .int .u8 c) (b := .int .u8 c) (by kernel_rfl) (by kernel_rfl) (eqInt _ _ Yba.underlying39 n c w) ?_
  refine fields_step (by decide) (a := .int .u32 d) (b := .int .u32 d) (by kernel_rfl) (by kernel_rfl) (eqInt _ _ Yba.underlying22 n d w) ?_
  refine fields_step (by decide) (a := .pointer none) (b := .pointer none) (by kernel_rfl) (by kernel_rfl) (run_equalIn_pointer_nil (P := Yba.prog) w n 46 none (by kernel_rfl)) ?_
  rfl

theorem neq48 (a b c d : Int) (w : World) :
    (binOp .neq 48 (.agg #[.int .u8 a, .int .u8 b, .int .u8 c, .int .u32 d, .pointer none]) (.agg #[.int .u8 a, .int .u8 b, .int .u8 c, .int .u32 d, .pointer none])).run Yba.prog w = .ok (.bool false) w := by
  have hS : Yba.prog.underlying 48 = some (.struct (Yba.prog.fieldsOf 48)) := by kernel_rfl
  have hp : Yba.prog.stoodInHeld 48 = false := by kernel_rfl
  rw [run_neq_struct, show (10000 : Nat) = 9999 + 1 from rfl, run_equalIn_agg w 9999 48 _ _ hS hp, show (9999 : Nat) = 9998 + 1 from rfl, fields48 a b c d 9998 w]
  rfl
end Go.Proofs.Ybulkehse
