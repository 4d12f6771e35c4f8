/-
  The proof of 'Rows.FnNeedsParenthesesFollowsBindingStrengthSaid': the frame is the given shell's; the walk and the plain laws are ours.
-/
import Derived.Test.Qxb6619408aRows
import Derived.WalkKit
import Derived.ProofKit
import Derived.OpenShut
import Derived.ShutString
namespace Go.Proofs.Qxb6619408a.fnNeedsParenthesesFollowsBindingStrength
open Go.ChangeShapes Go.WideShapes Go.ChangeAt Go.RowKit
open Go.ChangeMaps (open_string shut_string)
set_option linter.unusedVariables false      -- a walk need not use every 'w<i>' (that an integer argument fits its kind)

theorem own : ownKnob Try.prog.godebug = none := by kernel_rfl

/-! ### the plain functions -/
def needB (p s : Int) : Bool := if p = 1 then decide (s = 3) else if p = 2 then decide (s ≠ 0) else false
def bindI (s : Int) : Int := if s = 0 then 3 else if s = 1 then 2 else if s = 2 then 1 else 0
def demI (p : Int) : Int := if p = 1 then 1 else if p = 2 then 3 else 0

theorem need_eq (p s : Int) (h0 : 0 ≤ p) (h1 : p ≤ 2) (h2 : 0 ≤ s) (h3 : s ≤ 3) : needB p s = decide (bindI s < demI p) := by
  unfold needB bindI demI
  repeat' split
  all_goals simp
  all_goals omega
theorem need_mono (p q s t : Int) (h0 : 0 ≤ p) (hq : q ≤ 2) (h2 : 0 ≤ s) (h3 : t ≤ 3) (hpq : p ≤ q) (hst : s ≤ t) (h : needB p s = true) : needB q t = true := by
  unfold needB at h ⊢
  repeat' split at h
  all_goals repeat' split
  all_goals simp at h ⊢
  all_goals omega
theorem need_atom (q : Int) : needB q 0 = false := by
  unfold needB
  repeat' split
  all_goals simp

theorem ret_bool {x y : Bool} (h : x = y) : Ending.returned (.bool x) = .returned (.bool y) := by rw [h]
theorem ret_int {k : IntKind} {a b : Int} (h : a = b) : Ending.returned (.int k a) = .returned (.int k b) := by rw [h]

theorem f14 (p s : Int) (w : World) : Calls Try.prog 14 #[.int .i64 p, .int .i64 s] w fun e w' => e = .returned (.bool (needB p s)) ∧ w' = w := by
  by_cases h1 : p = 1
  · have a1 : (p == 1) = true := by simp [h1]
    go_enter Try.func14, Try.ntmps14
    go_wp2
    go_ret
    exact ⟨ret_bool (by subst h1; rw [Bool.eq_iff_iff]; simp [needB]), rfl⟩
  · have a1 : (p == 1) = false := by simp [h1]
    by_cases h2 : p = 2
    · have a2 : (p == 2) = true := by simp [h2]
      go_enter Try.func14, Try.ntmps14
      go_wp2
      go_ret
      exact ⟨ret_bool (by subst h2; rw [Bool.eq_iff_iff]; simp [needB]), rfl⟩
    · have a2 : (p == 2) = false := by simp [h2]
      go_enter Try.func14, Try.ntmps14
      go_wp2
      go_ret
      exact ⟨ret_bool (by simp [needB, h1, h2]), rfl⟩
theorem f8 (p s : Int) (w : World) : Calls Try.prog 8 #[.int .i64 p, .int .i64 s] w fun e w' => e = .returned (.bool (needB p s)) ∧ w' = w := by
  go_enter Try.func8, Try.ntmps8
  go_wp2_with (go_at_call 14; refine (f14 _ _ _).mono ?_; rintro e wx ⟨rfl, rfl⟩)
  go_ret
  exact ⟨rfl, rfl⟩
theorem f9 (s : Int) (w : World) : Calls Try.prog 9 #[.int .i64 s] w fun e w' => e = .returned (.int .i64 (bindI s)) ∧ w' = w := by
  by_cases h0 : s = 0
  · have a0 : (s == 0) = true := by simp [h0]
    go_enter Try.func9, Try.ntmps9
    go_wp2
    go_ret
    exact ⟨ret_int (by simp [bindI, h0]), rfl⟩
  · have a0 : (s == 0) = false := by simp [h0]
    by_cases h1 : s = 1
    · have a1 : (s == 1) = true := by simp [h1]
      go_enter Try.func9, Try.ntmps9
      go_wp2
      go_ret
      exact ⟨ret_int (by simp [bindI, h1]), rfl⟩
    · have a1 : (s == 1) = false := by simp [h1]
      by_cases h2 : s = 2
      · have a2 : (s == 2) = true := by simp [h2]
        go_enter Try.func9, Try.ntmps9
        go_wp2
        go_ret
        exact ⟨ret_int (by simp [bindI, h2]), rfl⟩
      · have a2 : (s == 2) = false := by simp [h2]
        go_enter Try.func9, Try.ntmps9
        go_wp2
        go_ret
        exact ⟨ret_int (by simp [bindI, h0, h1, h2]), rfl⟩
theorem f10 (s : Int) (w : World) : Calls Try.prog 10 #[.int .i64 s] w fun e w' => e = .returned (.int .i64 (demI s)) ∧ w' = w := by
  by_cases h1 : s = 1
  · have a1 : (s == 1) = true := by simp [h1]
    go_enter Try.func10, Try.ntmps10
    go_wp2
    go_ret
    exact ⟨ret_int (by simp [demI, h1]), rfl⟩
  · have a1 : (s == 1) = false := by simp [h1]
    by_cases h2 : s = 2
    · have a2 : (s == 2) = true := by simp [h2]
      go_enter Try.func10, Try.ntmps10
      go_wp2
      go_ret
      exact ⟨ret_int (by simp [demI, h2]), rfl⟩
    · have a2 : (s == 2) = false := by simp [h2]
      go_enter Try.func10, Try.ntmps10
      go_wp2
      go_ret
      exact ⟨ret_int (by simp [demI, h1, h2]), rfl⟩

set_option maxHeartbeats 2000000 in
theorem core (p q s t : Int) (w : World) (p0 : 0 ≤ p) (p2 : p ≤ 2) (q0 : 0 ≤ q) (q2 : q ≤ 2) (s0 : 0 ≤ s) (s3 : s ≤ 3) (t0 : 0 ≤ t) (t3 : t ≤ 3) :
    Calls Try.prog 4 #[.int .i64 p, .int .i64 q, .int .i64 s, .int .i64 t] w fun e w' => e = .returned (.bool true) ∧ Grown w w' := by
  have ha := need_atom q
  have he := need_eq p s p0 p2 s0 s3
  cases hn : needB p s
  · rw [hn] at he
    have hlt : ¬ bindI s < demI p := by simpa using he.symm
    clear he
    by_cases hpq : p ≤ q <;> by_cases hst : s ≤ t
    all_goals
      go_enter Try.func4, Try.ntmps4
      go_wp2_with (first | (go_at_call 8; refine (f8 _ _ _).mono ?_; rintro e wx ⟨rfl, rfl⟩) | (go_at_call 9; refine (f9 _ _).mono ?_; rintro e wx ⟨rfl, rfl⟩) | (go_at_call 10; refine (f10 _ _).mono ?_; rintro e wx ⟨rfl, rfl⟩))
      go_ret
      exact ⟨rfl, Grown.refl _⟩
  · rw [hn] at he
    have hlt : bindI s < demI p := by simpa using he.symm
    clear he
    by_cases hpq : p ≤ q <;> by_cases hst : s ≤ t
    · have hm := need_mono p q s t p0 q2 s0 t3 hpq hst hn
      go_enter Try.func4, Try.ntmps4
      go_wp2_with (first | (go_at_call 8; refine (f8 _ _ _).mono ?_; rintro e wx ⟨rfl, rfl⟩) | (go_at_call 9; refine (f9 _ _).mono ?_; rintro e wx ⟨rfl, rfl⟩) | (go_at_call 10; refine (f10 _ _).mono ?_; rintro e wx ⟨rfl, rfl⟩))
      go_ret
      exact ⟨rfl, Grown.refl _⟩
    all_goals
      go_enter Try.func4, Try.ntmps4
      go_wp2_with (first | (go_at_call 8; refine (f8 _ _ _).mono ?_; rintro e wx ⟨rfl, rfl⟩) | (go_at_call 9; refine (f9 _ _).mono ?_; rintro e wx ⟨rfl, rfl⟩) | (go_at_call 10; refine (f10 _ _).mono ?_; rintro e wx ⟨rfl, rfl⟩))
      go_ret
      exact ⟨rfl, Grown.refl _⟩

/-! ### STEP 1: THE WALK: the Go text returns true. 'Grown w w'': the world has at most new blocks (Derived/RowKit3.lean). Part the cases AHEAD of 'go_enter' where a test parts the walk; take each callee by a contract of your own. -/
set_option maxHeartbeats 1000000 in
theorem walk (a0 : Int) (a1 : Int) (a2 : Int) (a3 : Int) (w0 : (Lit.int .i64 a0).wf = true) (w1 : (Lit.int .i64 a1).wf = true) (w2 : (Lit.int .i64 a2).wf = true) (w3 : (Lit.int .i64 a3).wf = true) (w : World) :
    Calls Try.prog 4 #[.int .i64 a0, .int .i64 a1, .int .i64 a2, .int .i64 a3] w fun e w' => e = .returned (.bool true) ∧ Grown w w' := by
  by_cases h : (0 ≤ a0 ∧ a0 ≤ 2 ∧ 0 ≤ a1 ∧ a1 ≤ 2) ∧ (0 ≤ a2 ∧ a2 ≤ 3 ∧ 0 ≤ a3 ∧ a3 ≤ 3)
  · obtain ⟨⟨p0, p2, q0, q2⟩, s0, s3, t0, t3⟩ := h
    exact core a0 a1 a2 a3 w p0 p2 q0 q2 s0 s3 t0 t3
  · by_cases c1 : a0 < 0
    · go_enter Try.func4, Try.ntmps4
      go_wp2
      go_ret
      exact ⟨rfl, Grown.refl _⟩
    by_cases c2 : 2 < a0
    · go_enter Try.func4, Try.ntmps4
      go_wp2
      go_ret
      exact ⟨rfl, Grown.refl _⟩
    by_cases c3 : a1 < 0
    · go_enter Try.func4, Try.ntmps4
      go_wp2
      go_ret
      exact ⟨rfl, Grown.refl _⟩
    by_cases c4 : 2 < a1
    · go_enter Try.func4, Try.ntmps4
      go_wp2
      go_ret
      exact ⟨rfl, Grown.refl _⟩
    by_cases c5 : a2 < 0
    · go_enter Try.func4, Try.ntmps4
      go_wp2
      go_ret
      exact ⟨rfl, Grown.refl _⟩
    by_cases c6 : 3 < a2
    · go_enter Try.func4, Try.ntmps4
      go_wp2
      go_ret
      exact ⟨rfl, Grown.refl _⟩
    by_cases c7 : a3 < 0
    · go_enter Try.func4, Try.ntmps4
      go_wp2
      go_ret
      exact ⟨rfl, Grown.refl _⟩
    have c8 : 3 < a3 := by omega
    go_enter Try.func4, Try.ntmps4
    go_wp2
    go_ret
    exact ⟨rfl, Grown.refl _⟩

/-! ### THE ROW's STEP: WRITTEN OUT: LEAVE IT -/
set_option maxRecDepth 100000 in
theorem lifted (os : Os) (started : os.Started) (H : Type) (enc : TypeId × Value → H) :
    ReturnsInHanded {} Try.checked os 4 .any (Rows.fnNeedsParenthesesFollowsBindingStrengthSpec.pre6 enc Try.prog Try.f4 Rows.fnNeedsParenthesesFollowsBindingStrengthRow.domain false) (Rows.fnNeedsParenthesesFollowsBindingStrengthSpec.post enc Try.prog Try.f4 false true false false) := by
  refine returnsInHanded_of_change (C := Try.checked) own started (by kernel_rfl) Try.func4
    (ChangeSpec.witness6 (enc := enc) (C := Try.checked) false ⟨#[], #[.int .i64 0, .int .i64 0, .int .i64 0, .int .i64 0], []⟩ 8 (by kernel_rfl) (by kernel_rfl) (by kernel_rfl) (by kernel_rfl)) ?_
  intro W base args ds gs before hval0 hW hcnd _
  have hval : ∀ (j : Nat) t v, Try.f4.params[j]? = some t → args[j]? = some v → Value.okWide Try.prog W .any base t v := hval0
  have hW' := hW
  obtain ⟨p, q, hA0, hV, rfl, hfz, hnd⟩ := hW
  have hA : DataW.TrodAll enc Try.prog W 0 (fun _ => true) true Try.f4.params.toList args.toList ds p := hA0
  rw [Try.params4] at hA hval
  obtain ⟨v0, vs0, d0, ds0, p0, q0, hargs, rfl, rfl, h0, r0⟩ := trodAll_cons hA
  obtain ⟨v1, vs1, d1, ds1, p1, q1, rfl, rfl, rfl, h1, r1⟩ := trodAll_cons r0
  obtain ⟨v2, vs2, d2, ds2, p2, q2, rfl, rfl, rfl, h2, r2⟩ := trodAll_cons r1
  obtain ⟨v3, vs3, d3, ds3, p3, q3, rfl, rfl, rfl, h3, r3⟩ := trodAll_cons r2
  obtain ⟨rfl, rfl, rfl⟩ := trodAll_nil r3
  obtain rfl : args = #[v0, v1, v2, v3] := by cases args; simp_all
  obtain ⟨rfl, rfl⟩ := trodVars_none hV
  obtain ⟨a0, rfl, rfl, rfl, w0⟩ := open_int Try.underlying3 (hval 0 3 v0 rfl rfl) h0
  obtain ⟨a1, rfl, rfl, rfl, w1⟩ := open_int Try.underlying3 (hval 1 3 v1 rfl rfl) h1
  obtain ⟨a2, rfl, rfl, rfl, w2⟩ := open_int Try.underlying3 (hval 2 3 v2 rfl rfl) h2
  obtain ⟨a3, rfl, rfl, rfl, w3⟩ := open_int Try.underlying3 (hval 3 3 v3 rfl rfl) h3
  clear hA0 hval0
  simp only [List.append_nil] at hW'
  refine (walk a0 a1 a2 a3 w0 w1 w2 w3 W).mono fun e W' ⟨he, hg⟩ => ?_
  subst he
  exact ⟨_, rfl, post_of_same (pa := []) (pv := []) hW' (fun _ _ _ => (trodAll_cons_mk (shut_bool Try.underlying4 _) trodAll_mk0)) (fun sp _ => (trodAll_cons_mk (shut_int Try.underlying3 w0) (trodAll_cons_mk (shut_int Try.underlying3 w1) (trodAll_cons_mk (shut_int Try.underlying3 w2) (trodAll_cons_mk (shut_int Try.underlying3 w3) trodAll_mk0))))) (fun _ _ => rfl) rfl
    (hg.frame _) hg.2.1 (ok_one (by kernel_rfl) rfl (okWide_bool_mk Try.underlying4 _))⟩

theorem over : Rows.fnNeedsParenthesesFollowsBindingStrengthRow.holds Try.pinned (OpenSpec.ofChange Rows.fnNeedsParenthesesFollowsBindingStrengthSpec) :=
  OpenClaim.holds_of_wide 4 Try.f4 rfl rfl rfl rfl rfl rfl rfl ⟨rfl, rfl, rfl, rfl, rfl⟩ rfl rfl rfl rfl rfl (by kernel_rfl) Try.func4 (by kernel_rfl)
    (of_decide_eq_true (by kernel_rfl)) (by unfold Func.isWrapper; first | (rw [if_pos (by decide +kernel)]; kernel_rfl) | (rw [if_neg (by decide +kernel)]; exact ⟨rfl, rfl⟩))
    (fun os started H enc _ => lifted os started H enc)

/-- ████ THE STATEMENT ████ -/
theorem proved : Rows.FnNeedsParenthesesFollowsBindingStrengthSaid :=
  over
#print axioms proved
end Go.Proofs.Qxb6619408a.fnNeedsParenthesesFollowsBindingStrength
