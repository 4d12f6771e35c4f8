import Derived.Test.Qxb6619336aBase
import Derived.ChangeKeysEq
namespace Go.Proofs.Qxb6619336a
open Go.RowKit
theorem info29 : ∃ i, Try.prog.info? 29 = some i := by
  cases h : Try.prog.info? 29 with
  | none =>
    have : (Try.prog.info? 29).isSome = true := by kernel_rfl
    rw [h] at this; cases this
  | some i => exact ⟨i, rfl⟩
theorem cells29 : Try.prog.cellsOf 29 = 1 := by kernel_rfl
theorem eq30 (d : Nat) (a b c a' b' c' : Int) (w : World) : (Op.equalIn (d + 2) 30 (.agg #[.int .u64 a, .int .u64 b, .int .u64 c]) (.agg #[.int .u64 a', .int .u64 b', .int .u64 c'])).run Try.prog w =
    .ok (a == a' && (b == b' && c == c')) w := by
  obtain ⟨i, hi⟩ := info29
  rw [run_equalIn_array w (d + 1) _ _ Try.underlying30 hi, cells29]
  have h0 : ∀ (x y z : Value) w, (part 29 #[x, y, z] 0).run Try.prog w = .ok x w := fun x y z w => by simp [go_sem]
  have h1 : ∀ (x y z : Value) w, (part 29 #[x, y, z] 1).run Try.prog w = .ok y w := fun x y z w => by simp [go_sem]
  have h2 : ∀ (x y z : Value) w, (part 29 #[x, y, z] 2).run Try.prog w = .ok z w := fun x y z w => by simp [go_sem]
  have he : ∀ (x y : Int) w, (Op.equalIn (d + 1) 29 (.int .u64 x) (.int .u64 y)).run Try.prog w = .ok (x == y) w := fun x y w => run_equalIn_int w d 29 .u64 .u64 x y Try.underlying29
  simp only [List.range_succ, List.range_zero, List.nil_append, List.cons_append, Op.eqItems, Sem.run_bind, Nat.mul_one, h0, Result.andThen_ok, he]
  cases a == a'
  · rfl
  · simp only [Bool.not_true, Bool.false_eq_true, if_false, Sem.run_bind, h1, Result.andThen_ok, he]
    cases b == b'
    · rfl
    · simp only [Bool.not_true, Bool.false_eq_true, if_false, Sem.run_bind, h2, Result.andThen_ok, he]
      cases c == c' <;> rfl
end Go.Proofs.Qxb6619336a
