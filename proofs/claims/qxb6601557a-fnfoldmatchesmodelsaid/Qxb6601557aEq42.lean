/-
  '!=' between elements of four numbers. By an AI agent.
-/
import Derived.Test.Qxb6601557aFolds
namespace Go.Proofs.Qxb6601557a
set_option linter.unusedVariables false
open Go.RowKit

theorem size3 (w : World) : (Go.sizeOf 3).run Try.prog w = .ok 1 w := by
  simp [Go.sizeOf, go_sem]
  rfl

@[go_sem] theorem eq42 (w : World) (z0 z1 z2 z3 : Int) : (Op.equalIn 10000 42 (.agg #[.int .i64 z0, .int .i64 z1, .int .i64 z2, .int .i64 z3]) (.agg #[.int .i64 z0, .int .i64 z1, .int .i64 z2, .int .i64 z3])).run Try.prog w = .ok true w := by
  rw [show (10000 : Nat) = 9999 + 1 from rfl, Op.equalIn]
  simp only [Sem.run_bind, run_underlying Try.underlying42, Result.andThen_ok, size3, Std.Legacy.Range.forIn_eq_forIn_range', Std.Legacy.Range.size, Nat.sub_zero, Nat.add_sub_cancel, Nat.div_one]
  have hr : List.range' 0 4 1 = [0, 1, 2, 3] := rfl
  have hp : ∀ (i : Nat) (z : Int), i < 4 → ((#[.int .i64 z0, .int .i64 z1, .int .i64 z2, .int .i64 z3] : Array Value).getD i undef = .int .i64 z) → (part 3 #[.int .i64 z0, .int .i64 z1, .int .i64 z2, .int .i64 z3] (i * 1)).run Try.prog w = .ok (.int .i64 z) w := by
    intro i z hi h
    match i, hi with
    | 0, _ => simp [part, isAgg, run_underlying Try.underlying3] at h ⊢; exact h
    | 1, _ => simp [part, isAgg, run_underlying Try.underlying3] at h ⊢; exact h
    | 2, _ => simp [part, isAgg, run_underlying Try.underlying3] at h ⊢; exact h
    | 3, _ => simp [part, isAgg, run_underlying Try.underlying3] at h ⊢; exact h
  have pe : ∀ z : Int, (Op.equalIn 9999 3 (.int .i64 z) (.int .i64 z)).run Try.prog w = .ok true w := fun z => by
    rw [show (9999 : Nat) = 9998 + 1 from rfl, run_equalIn_int w 9998 3 .i64 .i64 z z Try.underlying3]; simp
  rw [hr]
  simp only [List.forIn_cons, List.forIn_nil, Sem.run_bind, hp 0 z0 (by omega) rfl, hp 1 z1 (by omega) rfl, hp 2 z2 (by omega) rfl, hp 3 z3 (by omega) rfl, pe, Result.andThen_ok, Bool.not_true, Bool.false_eq_true, if_false, Sem.run_pure]

theorem neq42 (w : World) (z0 z1 z2 z3 : Int) : (binOp .neq 42 (.agg #[.int .i64 z0, .int .i64 z1, .int .i64 z2, .int .i64 z3]) (.agg #[.int .i64 z0, .int .i64 z1, .int .i64 z2, .int .i64 z3])).run Try.prog w = .ok (.bool false) w := by
  rw [run_neq_struct, eq42]; rfl
@[go_sem] theorem guard42 : Try.prog.eqGuardType Try.prog.depth 42 = false := by kernel_rfl
end Go.Proofs.Qxb6601557a
