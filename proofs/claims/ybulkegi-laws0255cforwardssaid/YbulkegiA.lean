/-
  LawS0255CForwards: the walk.
-/
import Derived.Test.YbulkegiRows
import Derived.WalkKit
import Derived.Below
import Derived.ProofKit
import Derived.OpenShut
import Derived.Laws.EntriesVeiled
import Derived.LaidEqlPtr
namespace Go.Proofs.Ybulkegi
open Go.RowKit Go.ChangeShapes Go.WideShapes Go.ChangeAt
set_option linter.unusedVariables false

theorem eql_nil (w : World) : (binOp .eql 74 .nilFunc .nilFunc).run Yba.prog w = .ok (.bool true) w := by
  have h : ∀ d : Nat, (Op.equalIn (d + 1) 74 .nilFunc .nilFunc).run Yba.prog w = .ok true w := fun d => by
    simp [Op.equalIn, run_underlying Yba.underlying74]
  simp only [binOp]
  simp [Op.equal, Op.maxDepth, h 9999]
theorem eql_func (fn : Fn) (a b : Array Value) (w : World) : (binOp .eql 74 (.func fn a b) .nilFunc).run Yba.prog w = .ok (.bool false) w := by
  have h : ∀ d : Nat, (Op.equalIn (d + 1) 74 (.func fn a b) .nilFunc).run Yba.prog w = .ok false w := fun d => by
    simp [Op.equalIn, run_underlying Yba.underlying74]
  simp only [binOp]
  simp [Op.equal, Op.maxDepth, h 9999]
theorem eqIn (d : Nat) (x y z : Int) (w : World) : (Op.equalIn (d + 2) 30 (.agg #[.int .u8 x, .int .u8 y, .int .u8 z]) (.agg #[.int .u8 x, .int .u8 y, .int .u8 z])).run Yba.prog w = .ok true w := by
  rw [Op.equalIn]
  simp [run_underlying Yba.underlying30, Std.Legacy.Range.forIn_eq_forIn_range', Std.Legacy.Range.size, List.range', part, isAgg, run_underlying Yba.underlying5, run_equalIn_int w d 5 .u8 .u8 _ _ Yba.underlying5]
theorem eq_ptr (a : Addr) (w : World) : (binOp .eql 41 (.pointer (some a)) (.pointer (some a))).run Yba.prog w = .ok (.bool true) w := by
  have h : ((Yba.prog.info? 73).map (·.size)).isSome = true := by kernel_rfl
  rw [Option.isSome_map] at h
  obtain ⟨j, hj⟩ := Option.isSome_iff_exists.1 h
  exact run_eql_ptr_same w a Yba.underlying41 hj
theorem below_alloc {a w : World} (h : Below a.heap.size a w) (o : Obj) : Below a.heap.size a (w.alloc o) := h.alloc h.size o
theorem hmf (fn : Fn) (first cap : Array Value) (w : World) : (Instr.makeFunc fn first cap).run Yba.prog w = .ok (.func fn first cap) w := rfl

set_option maxRecDepth 100000 in
set_option maxHeartbeats 1600000 in
theorem walk_unset (x y z : Int) (gn : Bool) (mt ee : Int) (w : World) :
    Calls Yba.prog 5 #[.agg #[.int .u8 x, .int .u8 y, .int .u8 z], .bool false, .bool gn, .int .u32 mt, .int .u8 ee] w fun e w' => e = .returned (.bool true) ∧ Below w.heap.size w w' := by
  have hf := hmf
  have he := eql_nil
  have he' := eql_func
  go_enter Yba.func5, Yba.ntmps5
  go_wp2
  go_ret
  refine ⟨rfl, ?_⟩
  repeat' (first | exact Below.refl _ _ | refine below_alloc ?_ _)

set_option maxRecDepth 100000 in
set_option maxHeartbeats 3200000 in
theorem walk_set_nil (x y z : Int) (mt ee : Int) (w : World) :
    Calls Yba.prog 5 #[.agg #[.int .u8 x, .int .u8 y, .int .u8 z], .bool true, .bool true, .int .u32 mt, .int .u8 ee] w fun e w' => e = .returned (.bool true) ∧ Below w.heap.size w w' := by
  have hf := hmf
  have he := eql_nil
  have he' := eql_func
  have hq := fun u => eqIn 9998 x y z u
  go_enter Yba.func5, Yba.ntmps5
  go_wp2
  go_ret
  refine ⟨rfl, ?_⟩
  repeat' (first | exact Below.refl _ _ | refine below_alloc ?_ _)

set_option maxRecDepth 100000 in
set_option maxHeartbeats 3200000 in
theorem walk_set_want (x y z : Int) (mt ee : Int) (w : World) :
    Calls Yba.prog 5 #[.agg #[.int .u8 x, .int .u8 y, .int .u8 z], .bool true, .bool false, .int .u32 mt, .int .u8 ee] w fun e w' => e = .returned (.bool true) ∧ Below w.heap.size w w' := by
  have hf := hmf
  have he := eql_nil
  have he' := eql_func
  have hq := fun u => eqIn 9998 x y z u
  have hp := eq_ptr
  go_enter Yba.func5, Yba.ntmps5
  go_wp2
  go_ret
  refine ⟨rfl, ?_⟩
  repeat' (first | exact Below.refl _ _ | refine below_alloc ?_ _)
end Go.Proofs.Ybulkegi
