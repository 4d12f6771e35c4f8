import Derived.Test.Qxb6619336aMem
import Derived.BigQuiet
import Derived.BigRegion
namespace Go.Proofs.Qxb6619336a
open Go.RowKit
attribute [local go_sem ↓] Go.wp_at_zero Go.wp_at_succ
set_option maxHeartbeats 1000000 in
theorem xor_any (a b c a' b' c' : Int) (w : World) : Calls Try.prog 21 #[.agg #[.int .u64 a, .int .u64 b, .int .u64 c], .agg #[.int .u64 a', .int .u64 b', .int .u64 c']] w fun e w' =>
    e = .returned (.agg #[.int .u64 (bits .xor .u64 a a'), .int .u64 (bits .xor .u64 b b'), .int .u64 (bits .xor .u64 c c')]) ∧ Below w.heap.size w w' := by
  go_enter Try.func21, Try.ntmps21
  go_wp2
  refine wp_loop_rounds 4 ?_
  rw [rounds_succ]
  go_wp2
  go_region
  go_wp2
  rw [rounds_succ]
  go_wp2
  go_region
  go_wp2
  rw [rounds_succ]
  go_wp2
  go_region
  go_wp2
  rw [rounds_succ]
  go_wp2
  refine bodyPost_ret (v := .agg #[.int .u64 (bits .xor .u64 a a'), .int .u64 (bits .xor .u64 b b'), .int .u64 (bits .xor .u64 c c')]) (by simp [results, Try.results21, go_sem]) rfl ⟨rfl, ?_⟩
  exact (((((Below.refl _ _).alloc (Nat.le_refl _) _).alloc (by simp) _).alloc (by simp; omega) _).alloc (by simp; omega) _).drew.drew.drew

/-- the order of identifiers, most significant word first -/
def cmp3 (a b c a' b' c' : Int) : Int :=
  if c < c' then -1 else if c' < c then 1 else if b < b' then -1 else if b' < b then 1 else if a < a' then -1 else if a' < a then 1 else 0
set_option maxHeartbeats 2000000 in
theorem cmp_any (a b c a' b' c' : Int) (w : World) : Calls Try.prog 24 #[.agg #[.int .u64 a, .int .u64 b, .int .u64 c], .agg #[.int .u64 a', .int .u64 b', .int .u64 c']] w fun e w' =>
    e = .returned (.int .i64 (cmp3 a b c a' b' c')) ∧ Below w.heap.size w w' := by
  by_cases h1 : c < c'
  · go_enter Try.func24, Try.ntmps24
    go_wp2
    refine wp_loop_rounds 4 ?_
    rw [rounds_succ]
    go_wp2
    go_quiet (fail)
    go_wp2
    go_ret
    exact ⟨ret_int (by go_light; unfold cmp3; (repeat' split) <;> omega), Below.trans (((Below.refl _ _).alloc (Nat.le_refl _) _).alloc (by simp) _) ⟨rfl, rfl, rfl, Nat.le_refl _, fun _ _ => rfl⟩⟩
  by_cases h2 : c' < c
  · go_enter Try.func24, Try.ntmps24
    go_wp2
    refine wp_loop_rounds 4 ?_
    rw [rounds_succ]
    go_wp2
    go_quiet (fail)
    go_wp2
    go_quiet (fail)
    go_wp2
    go_ret
    exact ⟨ret_int (by go_light; unfold cmp3; (repeat' split) <;> omega), Below.trans (((Below.refl _ _).alloc (Nat.le_refl _) _).alloc (by simp) _) ⟨rfl, rfl, rfl, Nat.le_refl _, fun _ _ => rfl⟩⟩
  by_cases h3 : b < b'
  · go_enter Try.func24, Try.ntmps24
    go_wp2
    refine wp_loop_rounds 4 ?_
    rw [rounds_succ]
    go_wp2
    go_quiet (fail)
    go_wp2
    go_quiet (fail)
    go_wp2
    rw [rounds_succ]
    go_wp2
    go_quiet (fail)
    go_wp2
    go_ret
    exact ⟨ret_int (by go_light; unfold cmp3; (repeat' split) <;> omega), Below.trans (((Below.refl _ _).alloc (Nat.le_refl _) _).alloc (by simp) _) ⟨rfl, rfl, rfl, Nat.le_refl _, fun _ _ => rfl⟩⟩
  by_cases h4 : b' < b
  · go_enter Try.func24, Try.ntmps24
    go_wp2
    refine wp_loop_rounds 4 ?_
    rw [rounds_succ]
    go_wp2
    go_quiet (fail)
    go_wp2
    go_quiet (fail)
    go_wp2
    rw [rounds_succ]
    go_wp2
    go_quiet (fail)
    go_wp2
    go_quiet (fail)
    go_wp2
    go_ret
    exact ⟨ret_int (by go_light; unfold cmp3; (repeat' split) <;> omega), Below.trans (((Below.refl _ _).alloc (Nat.le_refl _) _).alloc (by simp) _) ⟨rfl, rfl, rfl, Nat.le_refl _, fun _ _ => rfl⟩⟩
  by_cases h5 : a < a'
  · go_enter Try.func24, Try.ntmps24
    go_wp2
    refine wp_loop_rounds 4 ?_
    rw [rounds_succ]
    go_wp2
    go_quiet (fail)
    go_wp2
    go_quiet (fail)
    go_wp2
    rw [rounds_succ]
    go_wp2
    go_quiet (fail)
    go_wp2
    go_quiet (fail)
    go_wp2
    rw [rounds_succ]
    go_wp2
    go_quiet (fail)
    go_wp2
    go_ret
    exact ⟨ret_int (by go_light; unfold cmp3; (repeat' split) <;> omega), Below.trans (((Below.refl _ _).alloc (Nat.le_refl _) _).alloc (by simp) _) ⟨rfl, rfl, rfl, Nat.le_refl _, fun _ _ => rfl⟩⟩
  by_cases h6 : a' < a
  · go_enter Try.func24, Try.ntmps24
    go_wp2
    refine wp_loop_rounds 4 ?_
    rw [rounds_succ]
    go_wp2
    go_quiet (fail)
    go_wp2
    go_quiet (fail)
    go_wp2
    rw [rounds_succ]
    go_wp2
    go_quiet (fail)
    go_wp2
    go_quiet (fail)
    go_wp2
    rw [rounds_succ]
    go_wp2
    go_quiet (fail)
    go_wp2
    go_quiet (fail)
    go_wp2
    go_ret
    exact ⟨ret_int (by go_light; unfold cmp3; (repeat' split) <;> omega), Below.trans (((Below.refl _ _).alloc (Nat.le_refl _) _).alloc (by simp) _) ⟨rfl, rfl, rfl, Nat.le_refl _, fun _ _ => rfl⟩⟩
  go_enter Try.func24, Try.ntmps24
  go_wp2
  refine wp_loop_rounds 4 ?_
  rw [rounds_succ]
  go_wp2
  go_quiet (fail)
  go_wp2
  go_quiet (fail)
  go_wp2
  rw [rounds_succ]
  go_wp2
  go_quiet (fail)
  go_wp2
  go_quiet (fail)
  go_wp2
  rw [rounds_succ]
  go_wp2
  go_quiet (fail)
  go_wp2
  go_quiet (fail)
  go_wp2
  rw [rounds_succ]
  go_wp2
  go_ret
  exact ⟨ret_int (by go_light; unfold cmp3; (repeat' split) <;> omega), Below.trans (((Below.refl _ _).alloc (Nat.le_refl _) _).alloc (by simp) _) ⟨rfl, rfl, rfl, Nat.le_refl _, fun _ _ => rfl⟩⟩
end Go.Proofs.Qxb6619336a
