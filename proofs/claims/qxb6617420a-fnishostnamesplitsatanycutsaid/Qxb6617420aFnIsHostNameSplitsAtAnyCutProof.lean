/-
  The proof of 'Rows.FnIsHostNameSplitsAtAnyCutSaid': the frame is the given shell's; the walk is ours (contracts: Qxb6617420aHost).
-/
import Derived.Test.Qxb6617420aRows
import Derived.Test.Qxb6617420aHost
import Derived.WalkKit
import Derived.Deep.RegionWith
import Derived.ProofKit
import Derived.OpenShut
import Derived.ShutString
namespace Go.Proofs.Qxb6617420a.fnIsHostNameSplitsAtAnyCut
open Go.ChangeShapes Go.WideShapes Go.ChangeAt Go.RowKit
open Go.ChangeMaps (open_string shut_string)
set_option linter.unusedVariables false      -- a walk need not use every 'w<i>' (that an integer argument fits its kind)

theorem own : ownKnob Try.prog.godebug = none := by kernel_rfl

theorem host_append (a b : ByteArray) : hostN (a ++ b) = (hostL a.data.toList && hostL b.data.toList && !(a.toList.isEmpty && b.toList.isEmpty)) := by
  have e : (a ++ b).data.toList = a.data.toList ++ b.data.toList := by simp
  unfold hostN hostL
  rw [e, List.all_append, ByteArray.toList_eq, ByteArray.toList_eq]
  congr 2
  cases a.data.toList <;> rfl
theorem hostN_eq (a : ByteArray) (h : a.toList.isEmpty = false) : hostN a = hostL a.data.toList := by
  unfold hostN; rw [ByteArray.toList_eq] at h; simp [h]
theorem hostL_nil (a : ByteArray) (h : a.toList.isEmpty = true) : hostL a.data.toList = true := by
  rw [ByteArray.toList_eq] at h; simp at h; simp [hostL, h]
theorem size_pos (a : ByteArray) (h : a.toList.isEmpty = false) : 0 < a.size := by
  rw [ByteArray.toList_eq] at h
  have : a.data.toList.length ≠ 0 := fun e => by simp [List.length_eq_zero_iff.mp e] at h
  simpa [Nat.pos_iff_ne_zero] using this
theorem first_one (a : ByteArray) (h : 0 < a.size) : hostN (a.extract 0 1) = hb (a[0]'h).toNat := by
  have e : (a.extract 0 1).data.toList = [a[0]'h] := by
    rcases a with ⟨⟨l⟩⟩
    cases l with
    | nil => simp [ByteArray.size] at h
    | cons c t => simp; rfl
  unfold hostN hostL
  rw [e]
  simp

set_option maxHeartbeats 1000000 in
theorem core_left (a0 a1 : ByteArray) (w : World) (hsum : a0.size + a1.size ≤ 1048576) (ha : a0.toList.isEmpty = true) (hb' : a1.toList.isEmpty = false) (hpos : 0 < a1.size)
    (x1 f : Bool) (hap : hostN (a0 ++ a1) = x1) (h1 : hostN a1 = x1) (hf1 : hostN (a1.extract 0 1) = f) (hf2 : hb (a1[0]'hpos).toNat = f) :
    Calls Try.prog 3 #[.string a0, .string a1] w fun e w' => e = .returned (.bool true) ∧ Grown w w' := by
  have hpos1 : (1 : Int) ≤ (a1.size : Int) := by omega
  have hpos0 : (0 : Int) < (a1.size : Int) := by omega
  cases x1 <;> cases f
  all_goals
    go_enter Try.func3, Try.ntmps3
    go_wp2_with (first | (go_at_call 5; refine (bytes3_yes _ _ _ hsum).mono ?_; rintro e wx ⟨rfl, rfl⟩) | (go_at_call 6; refine (zzHost_any _ _).mono ?_; rintro e wx ⟨rfl, hg⟩))
    go_region_with (first | (go_at_call 6; refine (zzHost_any _ _).mono ?_; rintro e wx ⟨rfl, hg2⟩) | (go_at_call 7; refine (hostByte_any _ _).mono ?_; rintro e wx ⟨rfl, rfl⟩))
    all_goals
      go_wp2
      go_ret
      exact ⟨rfl, by repeat (first | exact Grown.refl _ | assumption | refine grown_trans ?_ (by assumption) | apply Grown.drew)⟩

set_option maxHeartbeats 2000000 in
theorem core_both (a0 a1 : ByteArray) (w : World) (hsum : a0.size + a1.size ≤ 1048576) (ha : a0.toList.isEmpty = false) (hb' : a1.toList.isEmpty = false) (hpos : 0 < a1.size)
    (x0 x1 f : Bool) (hap : hostN (a0 ++ a1) = (x0 && x1)) (h0 : hostN a0 = x0) (h1 : hostN a1 = x1) (hf1 : hostN (a1.extract 0 1) = f) (hf2 : hb (a1[0]'hpos).toNat = f) :
    Calls Try.prog 3 #[.string a0, .string a1] w fun e w' => e = .returned (.bool true) ∧ Grown w w' := by
  have hpos1 : (1 : Int) ≤ (a1.size : Int) := by omega
  have hpos0 : (0 : Int) < (a1.size : Int) := by omega
  cases x0 <;> cases x1 <;> cases f
  all_goals
    simp only [Bool.and_true, Bool.and_false] at hap
    go_enter Try.func3, Try.ntmps3
    go_wp2_with (first | (go_at_call 5; refine (bytes3_yes _ _ _ hsum).mono ?_; rintro e wx ⟨rfl, rfl⟩) | (go_at_call 6; refine (zzHost_any _ _).mono ?_; rintro e wx ⟨rfl, hg⟩))
    go_region_with (first | (go_at_call 6; refine (zzHost_any _ _).mono ?_; rintro e wx ⟨rfl, hg2⟩) | (go_at_call 7; refine (hostByte_any _ _).mono ?_; rintro e wx ⟨rfl, rfl⟩))
    all_goals
      go_wp2
      go_ret
      exact ⟨rfl, by repeat (first | exact Grown.refl _ | assumption | refine grown_trans ?_ (by assumption) | apply Grown.drew)⟩

/-! ### STEP 1: THE WALK: the Go text returns true. 'Grown w w'': the world has at most new blocks (Derived/RowKit3.lean). Part the cases AHEAD of 'go_enter' where a test parts the walk; take each callee by a contract of your own. -/
theorem walk (a0 : ByteArray) (a1 : ByteArray) (w0 : a0.size ≤ maxLen) (w1 : a1.size ≤ maxLen) (w : World) :
    Calls Try.prog 3 #[.string a0, .string a1] w fun e w' => e = .returned (.bool true) ∧ Grown w w' := by
  by_cases hsum : a0.size + a1.size ≤ 1048576
  · have hap := host_append a0 a1
    cases ha : a0.toList.isEmpty with
    | true =>
      cases hb' : a1.toList.isEmpty with
      | true =>
        rw [ha, hb'] at hap
        simp at hap
        go_enter Try.func3, Try.ntmps3
        go_wp2_with (first | (go_at_call 5; refine (bytes3_yes _ _ _ hsum).mono ?_; rintro e wx ⟨rfl, rfl⟩) | (go_at_call 6; refine (zzHost_any _ _).mono ?_; rintro e wx ⟨rfl, hg⟩))
        go_ret
        exact ⟨rfl, hg⟩
      | false =>
        rw [ha, hb', hostL_nil a0 ha, ← hostN_eq a1 hb'] at hap
        have hpos := size_pos a1 hb'
        exact core_left a0 a1 w hsum ha hb' hpos _ _ (by simpa using hap) rfl (first_one a1 hpos) rfl
    | false =>
      cases hb' : a1.toList.isEmpty with
      | true =>
        rw [ha, hb', hostL_nil a1 hb', ← hostN_eq a0 ha] at hap
        simp at hap
        cases h0 : hostN a0
        all_goals
          rw [h0] at hap
          go_enter Try.func3, Try.ntmps3
          go_wp2_with (first | (go_at_call 5; refine (bytes3_yes _ _ _ hsum).mono ?_; rintro e wx ⟨rfl, rfl⟩) | (go_at_call 6; refine (zzHost_any _ _).mono ?_; rintro e wx ⟨rfl, hg⟩))
          go_ret
          exact ⟨rfl, by repeat (first | exact Grown.refl _ | assumption | refine grown_trans ?_ (by assumption) | apply Grown.drew)⟩
      | false =>
        rw [ha, hb', ← hostN_eq a0 ha, ← hostN_eq a1 hb'] at hap
        have hpos := size_pos a1 hb'
        exact core_both a0 a1 w hsum ha hb' hpos _ _ _ (by simpa using hap) rfl rfl (first_one a1 hpos) rfl
  · go_enter Try.func3, Try.ntmps3
    go_wp2_with (go_at_call 5; refine (bytes3_no _ _ _ hsum w0 w1).mono ?_; rintro e w' ⟨rfl, rfl⟩)
    go_ret
    exact ⟨rfl, Grown.refl _⟩

/-! ### THE ROW's STEP: WRITTEN OUT: LEAVE IT -/
set_option maxRecDepth 100000 in
theorem lifted (os : Os) (started : os.Started) (H : Type) (enc : TypeId × Value → H) :
    ReturnsInHanded {} Try.checked os 3 .any (Rows.fnIsHostNameSplitsAtAnyCutSpec.pre6 enc Try.prog Try.f3 Rows.fnIsHostNameSplitsAtAnyCutRow.domain false) (Rows.fnIsHostNameSplitsAtAnyCutSpec.post enc Try.prog Try.f3 false true false false) := by
  refine returnsInHanded_of_change (C := Try.checked) own started (by kernel_rfl) Try.func3
    (ChangeSpec.witness6 (enc := enc) (C := Try.checked) false ⟨#[], #[.string ByteArray.empty, .string ByteArray.empty], []⟩ 8 (by kernel_rfl) (by kernel_rfl) (by kernel_rfl) (by kernel_rfl)) ?_
  intro W base args ds gs before hval0 hW hcnd _
  have hval : ∀ (j : Nat) t v, Try.f3.params[j]? = some t → args[j]? = some v → Value.okWide Try.prog W .any base t v := hval0
  have hW' := hW
  obtain ⟨p, q, hA0, hV, rfl, hfz, hnd⟩ := hW
  have hA : DataW.TrodAll enc Try.prog W 0 (fun _ => true) true Try.f3.params.toList args.toList ds p := hA0
  rw [Try.params3] at hA hval
  obtain ⟨v0, vs0, d0, ds0, p0, q0, hargs, rfl, rfl, h0, r0⟩ := trodAll_cons hA
  obtain ⟨v1, vs1, d1, ds1, p1, q1, rfl, rfl, rfl, h1, r1⟩ := trodAll_cons r0
  obtain ⟨rfl, rfl, rfl⟩ := trodAll_nil r1
  obtain rfl : args = #[v0, v1] := by cases args; simp_all
  obtain ⟨rfl, rfl⟩ := trodVars_none hV
  obtain ⟨a0, rfl, rfl, rfl, w0⟩ := open_string Try.underlying9 (hval 0 9 v0 rfl rfl) h0
  obtain ⟨a1, rfl, rfl, rfl, w1⟩ := open_string Try.underlying9 (hval 1 9 v1 rfl rfl) h1
  clear hA0 hval0
  simp only [List.append_nil] at hW'
  refine (walk a0 a1 w0 w1 W).mono fun e W' ⟨he, hg⟩ => ?_
  subst he
  exact ⟨_, rfl, post_of_same (pa := []) (pv := []) hW' (fun _ _ _ => (trodAll_cons_mk (shut_bool Try.underlying4 _) trodAll_mk0)) (fun sp _ => (trodAll_cons_mk (shut_string Try.underlying9 w0) (trodAll_cons_mk (shut_string Try.underlying9 w1) trodAll_mk0))) (fun _ _ => rfl) rfl
    (hg.frame _) hg.2.1 (ok_one (by kernel_rfl) rfl (okWide_bool_mk Try.underlying4 _))⟩

theorem over : Rows.fnIsHostNameSplitsAtAnyCutRow.holds Try.pinned (OpenSpec.ofChange Rows.fnIsHostNameSplitsAtAnyCutSpec) :=
  OpenClaim.holds_of_wide 3 Try.f3 rfl rfl rfl rfl rfl rfl rfl ⟨rfl, rfl, rfl, rfl, rfl⟩ rfl rfl rfl rfl rfl (by kernel_rfl) Try.func3 (by kernel_rfl)
    (of_decide_eq_true (by kernel_rfl)) (by unfold Func.isWrapper; first | (rw [if_pos (by decide +kernel)]; kernel_rfl) | (rw [if_neg (by decide +kernel)]; exact ⟨rfl, rfl⟩))
    (fun os started H enc _ => lifted os started H enc)

/-- ████ THE STATEMENT ████ -/
theorem proved : Rows.FnIsHostNameSplitsAtAnyCutSaid :=
  over
#print axioms proved
end Go.Proofs.Qxb6617420a.fnIsHostNameSplitsAtAnyCut
