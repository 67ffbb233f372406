import Derived.Test.Qxb6605402aAcc3
namespace Go.Proofs.Qxb6605402a
open Go.RowKit Go.Maps
set_option linter.unusedVariables false
set_option linter.unusedSimpArgs false

theorem st24 : Try.prog.stoodInHeld 24 = false := by kernel_rfl
theorem st26 : Try.prog.stoodInHeld 26 = false := by kernel_rfl
theorem u24 : Try.prog.underlying 24 = some (.struct (Try.prog.fieldsOf 24)) := by kernel_rfl
theorem u26 : Try.prog.underlying 26 = some (.struct (Try.prog.fieldsOf 26)) := by kernel_rfl

set_option maxHeartbeats 1000000 in
theorem eq24 (d : Nat) (m : ByteArray) (v tk sq : Int) (c l t wr : Bool) (w : World) : (Op.equalIn (d + 2) 24 (.agg #[.string m, .int .u64 v, .bool c, .bool l, .bool t, .bool wr, .int .u64 tk, .int .u64 sq]) (.agg #[.string m, .int .u64 v, .bool c, .bool l, .bool t, .bool wr, .int .u64 tk, .int .u64 sq])).run Try.prog w = .ok true w := by
  rw [run_equalIn_struct w (d + 1) 24 _ _ u24 st24]
  go_simp

set_option maxHeartbeats 1000000 in
theorem eq26 (d : Nat) (r m : ByteArray) (v tk sq : Int) (c l t wr : Bool) (w : World) : (Op.equalIn (d + 3) 26 (.agg #[.string r, .string m, .int .u64 v, .bool c, .bool l, .bool t, .bool wr, .int .u64 tk, .int .u64 sq]) (.agg #[.string r, .string m, .int .u64 v, .bool c, .bool l, .bool t, .bool wr, .int .u64 tk, .int .u64 sq])).run Try.prog w = .ok true w := by
  have h24 := eq24 d m v tk sq c l t wr
  rw [run_equalIn_struct w (d + 2) 26 _ _ u26 st26]
  go_simp
theorem neq24 (m : ByteArray) (v tk sq : Int) (c l t wr : Bool) (w : World) : (binOp .neq 24 (.agg #[.string m, .int .u64 v, .bool c, .bool l, .bool t, .bool wr, .int .u64 tk, .int .u64 sq]) (.agg #[.string m, .int .u64 v, .bool c, .bool l, .bool t, .bool wr, .int .u64 tk, .int .u64 sq])).run Try.prog w = .ok (.bool false) w := by
  have h := eq24 9998 m v tk sq c l t wr w
  simp only [binOp, Op.equal, Op.maxDepth, Sem.run_bind, h, Result.andThen_ok, Sem.run_pure, Bool.not_true]
theorem neq26 (r m : ByteArray) (v tk sq : Int) (c l t wr : Bool) (w : World) : (binOp .neq 26 (.agg #[.string r, .string m, .int .u64 v, .bool c, .bool l, .bool t, .bool wr, .int .u64 tk, .int .u64 sq]) (.agg #[.string r, .string m, .int .u64 v, .bool c, .bool l, .bool t, .bool wr, .int .u64 tk, .int .u64 sq])).run Try.prog w = .ok (.bool false) w := by
  have h := eq26 9997 r m v tk sq c l t wr w
  simp only [binOp, Op.equal, Op.maxDepth, Sem.run_bind, h, Result.andThen_ok, Sem.run_pure, Bool.not_true]
theorem gd24 : Try.prog.eqGuardType Try.prog.depth 24 = false := by kernel_rfl
theorem gd26 : Try.prog.eqGuardType Try.prog.depth 26 = false := by kernel_rfl
theorem eg24 (x y : Operand) (a b : Array Value) (w : World) : (eqGuard .neq 24 x y (.agg a) (.agg b)).run Try.prog w = .ok () w := by
  simp [eqGuard, gd24]
theorem eg26 (x y : Operand) (a b : Array Value) (w : World) : (eqGuard .neq 26 x y (.agg a) (.agg b)).run Try.prog w = .ok () w := by
  simp [eqGuard, gd26]

end Go.Proofs.Qxb6605402a
