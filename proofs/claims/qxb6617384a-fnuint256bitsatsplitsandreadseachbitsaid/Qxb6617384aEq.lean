/-
  '==' on [4]uint64, at this dump.
-/
import Derived.Test.Qxb6617384aRows
import Derived.WalkKit
import Derived.ChangeKeysEq
namespace Go.Proofs.Qxb6617384a
open Go.RowKit

theorem part4 (c0 c1 c2 c3 : Int) (w : World) :
    (part 22 #[.int .u64 c0, .int .u64 c1, .int .u64 c2, .int .u64 c3] 0).run Try.prog w = .ok (.int .u64 c0) w ∧
    (part 22 #[.int .u64 c0, .int .u64 c1, .int .u64 c2, .int .u64 c3] 1).run Try.prog w = .ok (.int .u64 c1) w ∧
    (part 22 #[.int .u64 c0, .int .u64 c1, .int .u64 c2, .int .u64 c3] 2).run Try.prog w = .ok (.int .u64 c2) w ∧
    (part 22 #[.int .u64 c0, .int .u64 c1, .int .u64 c2, .int .u64 c3] 3).run Try.prog w = .ok (.int .u64 c3) w := by
  refine ⟨?_, ?_, ?_, ?_⟩ <;> simp [part, isAgg, run_underlying Try.underlying22]

theorem Try.cells22 : Try.prog.cellsOf 22 = 1 := by kernel_rfl

theorem eq_step (xs ys : Array Value) (a b : Int) (i : Nat) (is : List Nat) (w : World) (hx : (part 22 xs (i * 1)).run Try.prog w = .ok (.int .u64 a) w) (hy : (part 22 ys (i * 1)).run Try.prog w = .ok (.int .u64 b) w) :
    (Op.eqItems (9998 + 1) 22 1 xs ys (i :: is)).run Try.prog w = if a == b then (Op.eqItems (9998 + 1) 22 1 xs ys is).run Try.prog w else .ok false w := by
  simp only [Op.eqItems, Sem.run_bind, hx, hy, Result.andThen_ok, run_equalIn_int w 9998 22 .u64 .u64 a b Try.underlying22]
  cases a == b <;> simp

theorem run_eq4 (x0 x1 x2 x3 y0 y1 y2 y3 : Int) (w : World) :
    (Op.equalIn 10000 23 (.agg #[.int .u64 x0, .int .u64 x1, .int .u64 x2, .int .u64 x3]) (.agg #[.int .u64 y0, .int .u64 y1, .int .u64 y2, .int .u64 y3])).run Try.prog w = .ok (x0 == y0 && (x1 == y1 && (x2 == y2 && x3 == y3))) w := by
  have hi : ∃ i, Try.prog.info? 22 = some i := by
    have := Try.underlying22
    unfold Program.underlying at this
    cases h : Try.prog.info? 22 with
    | none => simp [h] at this
    | some i => exact ⟨i, rfl⟩
  obtain ⟨i, hi⟩ := hi
  have hx := part4 x0 x1 x2 x3 w
  have hy := part4 y0 y1 y2 y3 w
  rw [show (10000 : Nat) = 9998 + 1 + 1 from rfl, run_equalIn_array w (9998 + 1) _ _ Try.underlying23 hi, show List.range 4 = [0, 1, 2, 3] from rfl, Try.cells22]
  rw [eq_step _ _ _ _ 0 _ w (by simpa using hx.1) (by simpa using hy.1), eq_step _ _ _ _ 1 _ w (by simpa using hx.2.1) (by simpa using hy.2.1), eq_step _ _ _ _ 2 _ w (by simpa using hx.2.2.1) (by simpa using hy.2.2.1), eq_step _ _ _ _ 3 _ w (by simpa using hx.2.2.2) (by simpa using hy.2.2.2)]
  simp only [Op.eqItems, Sem.run_pure]
  cases x0 == y0 <;> cases x1 == y1 <;> cases x2 == y2 <;> cases x3 == y3 <;> rfl
end Go.Proofs.Qxb6617384a
