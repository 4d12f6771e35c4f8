/-
  The proof of 'Rows.FnCodePointsPiecesJoinAtAnyMiddleSaid': the frame is the given shell's; the walk is ours (plain laws: Qxb6619339aPts; contracts: Qxb6619339aWalk).
-/
import Derived.Test.Qxb6619339aRows
import Derived.Test.Qxb6619339aWalk
import Derived.WalkKit
import Derived.ProofKit
import Derived.OpenShut
import Derived.ShutString
namespace Go.Proofs.Qxb6619339a.fnCodePointsPiecesJoinAtAnyMiddle
open Go.ChangeShapes Go.WideShapes Go.ChangeAt Go.RowKit
open Go.ChangeMaps (open_string shut_string)
set_option linter.unusedVariables false      -- a walk need not use every 'w<i>' (that an integer argument fits its kind)

theorem own : ownKnob Try.prog.godebug = none := by kernel_rfl

theorem bytes4_yes (a : ByteArray) (x y z : Int) (w : World) (h : a.size ≤ 1048576) :
    Calls Try.prog 4 #[.string a, .int .i64 x, .int .i64 y, .int .i64 z] w fun e w' => e = .returned (.bool true) ∧ w' = w := by
  go_enter Try.func4, Try.ntmps4
  go_wp2
  go_ret
  exact ⟨rfl, rfl⟩
theorem bytes4_no (a : ByteArray) (x y z : Int) (w : World) (h : ¬ a.size ≤ 1048576) (ha : a.size ≤ maxLen) :
    Calls Try.prog 4 #[.string a, .int .i64 x, .int .i64 y, .int .i64 z] w fun e w' => e = .returned (.bool false) ∧ w' = w := by
  unfold maxLen at ha
  go_enter Try.func4, Try.ntmps4
  go_wp2
  all_goals (go_ret; exact ⟨rfl, rfl⟩)
theorem zz_any (s : ByteArray) (lo hi n : Nat) (w : World) (hs : s.size ≤ 1048576) (hlh : lo ≤ hi) (hn : hi ≤ n) (hb : bd s n = s.size) :
    Calls Try.prog 6 #[.string s, .int .i64 lo, .int .i64 hi] w fun e w' => e = .returned (.string (s.extract (bd s lo) (bd s hi))) ∧ Grown w w' := by
  have Hb : Hid (bd s n = s.size) := hb
  clear hb
  go_enter Try.func6, Try.ntmps6
  go_wp2_with (go_at_call 7; refine (cp_any s lo hi n _ hs hlh hn Hb.out).mono ?_; rintro e wx ⟨rfl, hg⟩)
  go_ret
  exact ⟨rfl, hg⟩


set_option maxHeartbeats 1000000 in
theorem core (s : ByteArray) (lo mid hi n : Nat) (w : World) (hs : s.size ≤ 1048576) (h1 : lo ≤ mid) (h2 : mid ≤ hi) (h3 : hi ≤ n) (hb : bd s n = s.size) :
    Calls Try.prog 3 #[.string s, .int .i64 lo, .int .i64 mid, .int .i64 hi] w fun e w' => e = .returned (.bool true) ∧ Grown w w' := by
  have Hb : Hid (bd s n = s.size) := hb
  have m0 := bd_le s 0 lo (by omega)
  have m1 := bd_le s lo mid h1
  have m2 := bd_le s mid hi h2
  have m3 := bd_le s hi n h3
  have hj := join_cut s (bd s lo) (bd s mid) (bd s hi) m1 m2 (by omega)
  have Hc := cnt_cut s lo hi (by omega) (by omega)
  have ht : ((s.extract (bd s lo) (bd s mid) ++ s.extract (bd s mid) (bd s hi)).toList == (s.extract (bd s lo) (bd s hi)).toList) = true := by rw [hj]; simp
  have hall : s.extract (bd s 0) (bd s n) = s := by rw [hb]; show s.extract 0 s.size = s; apply ByteArray.ext; simp
  have hsz1 : (s.extract (bd s lo) (bd s mid)).size ≤ 1048576 := by simp; omega
  have hsz2 : (s.extract (bd s mid) (bd s hi)).size ≤ 1048576 := by simp; omega
  have hsz3 : (s.extract (bd s lo) (bd s hi)).size ≤ 1048576 := by simp; omega
  clear hj hb
  obtain ⟨T1, hT1⟩ : ∃ T, T = s.extract (bd s lo) (bd s mid) := ⟨_, rfl⟩
  obtain ⟨T2, hT2⟩ : ∃ T, T = s.extract (bd s mid) (bd s hi) := ⟨_, rfl⟩
  obtain ⟨T3, hT3⟩ : ∃ T, T = s.extract (bd s lo) (bd s hi) := ⟨_, rfl⟩
  have c1 : ∀ w, Calls Try.prog 6 #[.string s, .int .i64 lo, .int .i64 mid] w fun e w' => e = .returned (.string T1) ∧ Grown w w' := fun w => by rw [hT1]; exact zz_any s lo mid n w hs h1 (by omega) Hb.out
  have c2 : ∀ w, Calls Try.prog 6 #[.string s, .int .i64 mid, .int .i64 hi] w fun e w' => e = .returned (.string T2) ∧ Grown w w' := fun w => by rw [hT2]; exact zz_any s mid hi n w hs h2 h3 Hb.out
  have c3 : ∀ w, Calls Try.prog 6 #[.string s, .int .i64 lo, .int .i64 hi] w fun e w' => e = .returned (.string T3) ∧ Grown w w' := fun w => by rw [hT3]; exact zz_any s lo hi n w hs (by omega) h3 Hb.out
  have c4 : ∀ w, Calls Try.prog 6 #[.string s, .int .i64 0, .int .i64 n] w fun e w' => e = .returned (.string s) ∧ Grown w w' := fun w => by
    have := zz_any s 0 n n w hs (by omega) (by omega) Hb.out
    rw [hall] at this
    exact this
  have c5 : ∀ w, Calls Try.prog 5 #[.string s] w fun e w' => e = .returned (.int .i64 n) ∧ Grown w w' := fun w =>
    (count_any s w hs).mono fun e w' ⟨⟨m, he, hm⟩, hg⟩ => ⟨by rw [he, bd_inj s m n (by rw [hm, Hb.out])], hg⟩
  rw [← hT1] at ht hsz1
  rw [← hT2] at ht hsz2
  rw [← hT3] at ht hsz3 Hc
  have c6 : ∀ w, Calls Try.prog 5 #[.string T3] w fun e w' => e = .returned (.int .i64 ((hi : Int) - (lo : Int))) ∧ Grown w w' := fun w =>
    (count_any T3 w hsz3).mono fun e w' ⟨⟨m, he, hm⟩, hg⟩ => ⟨by
      have : m = hi - lo := bd_inj T3 m (hi - lo) (by rw [hm, Hc])
      rw [he, this]; congr 2; omega, hg⟩
  have C1 : Hid _ := c1
  have C2 : Hid _ := c2
  have C3 : Hid _ := c3
  have C4 : Hid _ := c4
  have C5 : Hid _ := c5
  have C6 : Hid _ := c6
  have hnb : n ≤ 1048576 := by have := bd_ge s n; rw [Hb.out] at this; omega
  clear c1 c2 c3 c4 c5 c6 hT1 hT2 hT3 Hc hall m0 m1 m2 m3
  go_enter Try.func3, Try.ntmps3
  go_wp2_with (first | (go_at_call 4; refine (bytes4_yes _ _ _ _ _ hs).mono ?_; rintro e wx ⟨rfl, rfl⟩))
  go_wp2_with fail
  refine (C5.out _).mono ?_
  rintro e wa ⟨rfl, ga⟩
  go_wp2_with fail
  refine (C1.out _).mono ?_
  rintro e wb ⟨rfl, gb⟩
  go_wp2_with fail
  refine (C2.out _).mono ?_
  rintro e wc ⟨rfl, gc⟩
  go_wp2_with fail
  refine (C3.out _).mono ?_
  rintro e wdd ⟨rfl, gd⟩
  go_wp2_with fail
  refine (C4.out _).mono ?_
  rintro e we ⟨rfl, ge⟩
  go_wp2_with fail
  refine (C6.out _).mono ?_
  rintro e wf ⟨rfl, gf⟩
  go_wp2
  go_ret
  exact ⟨rfl, grown_trans ga (grown_trans gb (grown_trans gc (grown_trans gd (grown_trans ge gf))))⟩

/-! ### STEP 1: THE WALK: the Go text returns true. 'Grown w w'': the world has at most new blocks (Derived/RowKit3.lean). Part the cases AHEAD of 'go_enter' where a test parts the walk; take each callee by a contract of your own. -/
set_option maxHeartbeats 1000000 in
theorem walk (a0 : ByteArray) (a1 : Int) (a2 : Int) (a3 : Int) (w0 : a0.size ≤ maxLen) (w1 : (Lit.int .i64 a1).wf = true) (w2 : (Lit.int .i64 a2).wf = true) (w3 : (Lit.int .i64 a3).wf = true) (w : World) :
    Calls Try.prog 3 #[.string a0, .int .i64 a1, .int .i64 a2, .int .i64 a3] w fun e w' => e = .returned (.bool true) ∧ Grown w w' := by
  by_cases hs : a0.size ≤ 1048576
  · by_cases h : 0 ≤ a1 ∧ a1 ≤ a2 ∧ a2 ≤ a3
    · obtain ⟨l0, l1, l2⟩ := h
      obtain ⟨lo, rfl⟩ := Int.eq_ofNat_of_zero_le l0
      obtain ⟨mid, rfl⟩ := Int.eq_ofNat_of_zero_le (show 0 ≤ a2 by omega)
      obtain ⟨hi, rfl⟩ := Int.eq_ofNat_of_zero_le (show 0 ≤ a3 by omega)
      by_cases hx : ∃ n, bd a0 n = a0.size ∧ hi ≤ n
      · obtain ⟨n, hb, hn⟩ := hx
        exact core a0 lo mid hi n w hs (by omega) (by omega) hn hb
      · have c5 : ∀ w, Calls Try.prog 5 #[.string a0] w fun e w' => ∃ n : Nat, e = .returned (.int .i64 n) ∧ n < hi ∧ Grown w w' := fun w =>
          (count_any a0 w hs).mono fun e w' ⟨⟨m, he, hm⟩, hg⟩ => ⟨m, he, by
            have : ¬ hi ≤ m := fun q => hx ⟨m, hm, q⟩
            omega, hg⟩
        have C5 : Hid _ := c5
        clear c5 hx
        go_enter Try.func3, Try.ntmps3
        go_wp2_with (first | (go_at_call 4; refine (bytes4_yes _ _ _ _ _ hs).mono ?_; rintro e wx ⟨rfl, rfl⟩))
        go_wp2_with fail
        refine (C5.out _).mono ?_
        rintro e wa ⟨n, rfl, hn, ga⟩
        go_wp2
        go_ret
        exact ⟨rfl, ga⟩
    · have c5 : ∀ w, Calls Try.prog 5 #[.string a0] w fun e w' => ∃ n : Nat, e = .returned (.int .i64 n) ∧ Grown w w' := fun w =>
        (count_any a0 w hs).mono fun e w' ⟨⟨m, he, hm⟩, hg⟩ => ⟨m, he, hg⟩
      have C5 : Hid _ := c5
      clear c5
      by_cases q1 : a1 < 0
      · go_enter Try.func3, Try.ntmps3
        go_wp2_with (first | (go_at_call 4; refine (bytes4_yes _ _ _ _ _ hs).mono ?_; rintro e wx ⟨rfl, rfl⟩))
        go_wp2_with fail
        refine (C5.out _).mono ?_
        rintro e wa ⟨n, rfl, ga⟩
        go_wp2
        go_ret
        exact ⟨rfl, ga⟩
      by_cases q2 : a2 < a1
      · go_enter Try.func3, Try.ntmps3
        go_wp2_with (first | (go_at_call 4; refine (bytes4_yes _ _ _ _ _ hs).mono ?_; rintro e wx ⟨rfl, rfl⟩))
        go_wp2_with fail
        refine (C5.out _).mono ?_
        rintro e wa ⟨n, rfl, ga⟩
        go_wp2
        go_ret
        exact ⟨rfl, ga⟩
      have q3 : a3 < a2 := by omega
      go_enter Try.func3, Try.ntmps3
      go_wp2_with (first | (go_at_call 4; refine (bytes4_yes _ _ _ _ _ hs).mono ?_; rintro e wx ⟨rfl, rfl⟩))
      go_wp2_with fail
      refine (C5.out _).mono ?_
      rintro e wa ⟨n, rfl, ga⟩
      go_wp2
      go_ret
      exact ⟨rfl, ga⟩
  · go_enter Try.func3, Try.ntmps3
    go_wp2_with (go_at_call 4; refine (bytes4_no _ _ _ _ _ hs w0).mono ?_; rintro e w' ⟨rfl, rfl⟩)
    go_ret
    exact ⟨rfl, Grown.refl _⟩

/-! ### THE ROW's STEP: WRITTEN OUT: LEAVE IT -/
set_option maxRecDepth 100000 in
theorem lifted (os : Os) (started : os.Started) (H : Type) (enc : TypeId × Value → H) :
    ReturnsInHanded {} Try.checked os 3 .any (Rows.fnCodePointsPiecesJoinAtAnyMiddleSpec.pre6 enc Try.prog Try.f3 Rows.fnCodePointsPiecesJoinAtAnyMiddleRow.domain false) (Rows.fnCodePointsPiecesJoinAtAnyMiddleSpec.post enc Try.prog Try.f3 false true false false) := by
  refine returnsInHanded_of_change (C := Try.checked) own started (by kernel_rfl) Try.func3
    (ChangeSpec.witness6 (enc := enc) (C := Try.checked) false ⟨#[], #[.string ByteArray.empty, .int .i64 0, .int .i64 0, .int .i64 0], []⟩ 8 (by kernel_rfl) (by kernel_rfl) (by kernel_rfl) (by kernel_rfl)) ?_
  intro W base args ds gs before hval0 hW hcnd _
  have hval : ∀ (j : Nat) t v, Try.f3.params[j]? = some t → args[j]? = some v → Value.okWide Try.prog W .any base t v := hval0
  have hW' := hW
  obtain ⟨p, q, hA0, hV, rfl, hfz, hnd⟩ := hW
  have hA : DataW.TrodAll enc Try.prog W 0 (fun _ => true) true Try.f3.params.toList args.toList ds p := hA0
  rw [Try.params3] at hA hval
  obtain ⟨v0, vs0, d0, ds0, p0, q0, hargs, rfl, rfl, h0, r0⟩ := trodAll_cons hA
  obtain ⟨v1, vs1, d1, ds1, p1, q1, rfl, rfl, rfl, h1, r1⟩ := trodAll_cons r0
  obtain ⟨v2, vs2, d2, ds2, p2, q2, rfl, rfl, rfl, h2, r2⟩ := trodAll_cons r1
  obtain ⟨v3, vs3, d3, ds3, p3, q3, rfl, rfl, rfl, h3, r3⟩ := trodAll_cons r2
  obtain ⟨rfl, rfl, rfl⟩ := trodAll_nil r3
  obtain rfl : args = #[v0, v1, v2, v3] := by cases args; simp_all
  obtain ⟨rfl, rfl⟩ := trodVars_none hV
  obtain ⟨a0, rfl, rfl, rfl, w0⟩ := open_string Try.underlying9 (hval 0 9 v0 rfl rfl) h0
  obtain ⟨a1, rfl, rfl, rfl, w1⟩ := open_int Try.underlying3 (hval 1 3 v1 rfl rfl) h1
  obtain ⟨a2, rfl, rfl, rfl, w2⟩ := open_int Try.underlying3 (hval 2 3 v2 rfl rfl) h2
  obtain ⟨a3, rfl, rfl, rfl, w3⟩ := open_int Try.underlying3 (hval 3 3 v3 rfl rfl) h3
  clear hA0 hval0
  simp only [List.append_nil] at hW'
  refine (walk a0 a1 a2 a3 w0 w1 w2 w3 W).mono fun e W' ⟨he, hg⟩ => ?_
  subst he
  exact ⟨_, rfl, post_of_same (pa := []) (pv := []) hW' (fun _ _ _ => (trodAll_cons_mk (shut_bool Try.underlying4 _) trodAll_mk0)) (fun sp _ => (trodAll_cons_mk (shut_string Try.underlying9 w0) (trodAll_cons_mk (shut_int Try.underlying3 w1) (trodAll_cons_mk (shut_int Try.underlying3 w2) (trodAll_cons_mk (shut_int Try.underlying3 w3) trodAll_mk0))))) (fun _ _ => rfl) rfl
    (hg.frame _) hg.2.1 (ok_one (by kernel_rfl) rfl (okWide_bool_mk Try.underlying4 _))⟩

theorem over : Rows.fnCodePointsPiecesJoinAtAnyMiddleRow.holds Try.pinned (OpenSpec.ofChange Rows.fnCodePointsPiecesJoinAtAnyMiddleSpec) :=
  OpenClaim.holds_of_wide 3 Try.f3 rfl rfl rfl rfl rfl rfl rfl ⟨rfl, rfl, rfl, rfl, rfl⟩ rfl rfl rfl rfl rfl (by kernel_rfl) Try.func3 (by kernel_rfl)
    (of_decide_eq_true (by kernel_rfl)) (by unfold Func.isWrapper; first | (rw [if_pos (by decide +kernel)]; kernel_rfl) | (rw [if_neg (by decide +kernel)]; exact ⟨rfl, rfl⟩))
    (fun os started H enc _ => lifted os started H enc)

/-- ████ THE STATEMENT ████ -/
theorem proved : Rows.FnCodePointsPiecesJoinAtAnyMiddleSaid :=
  over
#print axioms proved
end Go.Proofs.Qxb6619339a.fnCodePointsPiecesJoinAtAnyMiddle
