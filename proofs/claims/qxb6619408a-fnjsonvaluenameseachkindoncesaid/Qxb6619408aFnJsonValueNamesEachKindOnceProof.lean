/-
  The proof of 'Rows.FnJsonValueNamesEachKindOnceSaid': the frame is the given shell's; the walk is ours (contracts and plain laws: Qxb6619408aJv).
-/
import Derived.Test.Qxb6619408aRows
import Derived.Test.Qxb6619408aJv
import Derived.WalkKit
import Derived.ProofKit
import Derived.OpenShut
import Derived.ShutString
namespace Go.Proofs.Qxb6619408a.fnJsonValueNamesEachKindOnce
open Go.ChangeShapes Go.WideShapes Go.ChangeAt Go.RowKit
open Go.ChangeMaps (open_string shut_string)
set_option linter.unusedVariables false      -- a walk need not use every 'w<i>' (that an integer argument fits its kind)

theorem own : ownKnob Try.prog.godebug = none := by kernel_rfl

theorem bytes5_yes (a b : ByteArray) (w : World) (h : a.size + b.size ≤ 1048576) :
    Calls Try.prog 5 #[.string a, .string b] w fun e w' => e = .returned (.bool true) ∧ w' = w := by
  go_enter Try.func5, Try.ntmps5
  go_wp2
  go_ret
  exact ⟨rfl, rfl⟩
theorem bytes5_no (a b : ByteArray) (w : World) (h : ¬ a.size + b.size ≤ 1048576) (ha : a.size ≤ maxLen) (hb : b.size ≤ maxLen) :
    Calls Try.prog 5 #[.string a, .string b] w fun e w' => e = .returned (.bool false) ∧ w' = w := by
  unfold maxLen at ha hb
  go_enter Try.func5, Try.ntmps5
  go_wp2
  all_goals (go_ret; exact ⟨rfl, rfl⟩)

/-- kind is 'bool' -/
theorem names_bool (r k : ByteArray) (w : World) (h1 : (k.toList == [98, 111, 111, 108]) = true) (h2 : (r.toList == [116, 114, 117, 101, 32, 111, 114, 32, 102, 97, 108, 115, 101]) = true) :
    Calls Try.prog 7 #[.string r, .string k] w fun e w' => e = .returned (.bool true) ∧ w' = w := by
  go_enter Try.func7, Try.ntmps7
  go_wp2
  go_ret
  exact ⟨rfl, rfl⟩
/-- kind is 'array' or 'object' -/
theorem names_an (r k : ByteArray) (w : World) (hk : k.size ≤ 4096) (hp : 0 < k.size) (h1 : (k.toList == [98, 111, 111, 108]) = false)
    (h2 : (r.toList == (⟨#[97, 110, 32]⟩ ++ k : ByteArray).toList) = true) (h3 : isK k = true) (h4 : vow (k[0]'hp).toNat = true) :
    Calls Try.prog 7 #[.string r, .string k] w fun e w' => e = .returned (.bool true) ∧ w' = w := by
  have hp0 : (0 : Int) < (k.size : Int) := by omega
  go_enter Try.func7, Try.ntmps7
  go_wp2_with (first | (go_at_call 12; refine (f12 _ _).mono ?_; rintro e wx ⟨rfl, rfl⟩) | (go_at_call 13; refine (f13 _ _).mono ?_; rintro e wx ⟨rfl, rfl⟩))
  go_ret
  exact ⟨rfl, rfl⟩
/-- another of the JSON kinds -/
theorem names_a_yes (r k : ByteArray) (w : World) (hk : k.size ≤ 4096) (hp : 0 < k.size) (h1 : (k.toList == [98, 111, 111, 108]) = false)
    (h2 : (r.toList == (⟨#[97, 110, 32]⟩ ++ k : ByteArray).toList) = false) (h2' : (r.toList == (⟨#[97, 32]⟩ ++ k : ByteArray).toList) = true) (h3 : isK k = true) (h4 : vow (k[0]'hp).toNat = false) :
    Calls Try.prog 7 #[.string r, .string k] w fun e w' => e = .returned (.bool true) ∧ w' = w := by
  have hp0 : (0 : Int) < (k.size : Int) := by omega
  go_enter Try.func7, Try.ntmps7
  go_wp2_with (first | (go_at_call 12; refine (f12 _ _).mono ?_; rintro e wx ⟨rfl, rfl⟩) | (go_at_call 13; refine (f13 _ _).mono ?_; rintro e wx ⟨rfl, rfl⟩))
  go_ret
  exact ⟨rfl, rfl⟩
/-- any other kind -/
theorem names_a_no (r k : ByteArray) (w : World) (hk : k.size ≤ 4096) (h1 : (k.toList == [98, 111, 111, 108]) = false)
    (h2 : (r.toList == (⟨#[97, 110, 32]⟩ ++ k : ByteArray).toList) = false) (h2' : (r.toList == (⟨#[97, 32]⟩ ++ k : ByteArray).toList) = true) (h3 : isK k = false) :
    Calls Try.prog 7 #[.string r, .string k] w fun e w' => e = .returned (.bool true) ∧ w' = w := by
  go_enter Try.func7, Try.ntmps7
  go_wp2_with (first | (go_at_call 12; refine (f12 _ _).mono ?_; rintro e wx ⟨rfl, rfl⟩) | (go_at_call 13; refine (f13 _ _).mono ?_; rintro e wx ⟨rfl, rfl⟩))
  go_ret
  exact ⟨rfl, rfl⟩

theorem names_any (k : ByteArray) (w : World) (hk : k.size ≤ 4096) :
    Calls Try.prog 7 #[.string (jv k), .string k] w fun e w' => e = .returned (.bool true) ∧ w' = w := by
  have an3 : (⟨#[97, 110, 32]⟩ : ByteArray).toList = [97, 110, 32] := by simp [ByteArray.toList_eq]
  have a2 : (⟨#[97, 32]⟩ : ByteArray).toList = [97, 32] := by simp [ByteArray.toList_eq]
  cases hb : isBool k
  · have hb' : (k.toList == [98, 111, 111, 108]) = false := hb
    cases ha : isAn k
    · have e := jv_a k hb ha
      have h2 : ((jv k).toList == (⟨#[97, 110, 32]⟩ ++ k : ByteArray).toList) = false := by
        rw [toList_add, an3, e]; simp
      have h2' : ((jv k).toList == (⟨#[97, 32]⟩ ++ k : ByteArray).toList) = true := by
        rw [toList_add, a2, e]; simp
      cases h3 : isK k
      · exact names_a_no _ k w hk hb' h2 h2' h3
      · have hv : ∃ hp : 0 < k.size, vow (k[0]'hp).toNat = false := by
          have h3' := h3
          unfold isK at h3'
          unfold isAn at ha
          simp only [Bool.or_eq_true, Bool.or_eq_false_iff, beq_iff_eq, beq_eq_false_iff_ne] at h3' ha
          rcases h3' with (((h | h) | h) | h) | h
          · obtain ⟨hp, e0⟩ := first_of k _ _ h; exact ⟨hp, by rw [e0]; rfl⟩
          · obtain ⟨hp, e0⟩ := first_of k _ _ h; exact ⟨hp, by rw [e0]; rfl⟩
          · exact absurd h ha.1
          · exact absurd h ha.2
          · obtain ⟨hp, e0⟩ := first_of k _ _ h; exact ⟨hp, by rw [e0]; rfl⟩
        obtain ⟨hp, hv⟩ := hv
        exact names_a_yes _ k w hk hp hb' h2 h2' h3 hv
    · have e := jv_an k hb ha
      have h2 : ((jv k).toList == (⟨#[97, 110, 32]⟩ ++ k : ByteArray).toList) = true := by
        rw [toList_add, an3, e]; simp
      unfold isAn at ha
      simp only [Bool.or_eq_true, beq_iff_eq] at ha
      have h3 : isK k = true := by
        unfold isK
        simp only [Bool.or_eq_true, beq_iff_eq]
        rcases ha with h | h
        · simp [h]
        · simp [h]
      have hv : ∃ hp : 0 < k.size, vow (k[0]'hp).toNat = true := by
        rcases ha with h | h
        · obtain ⟨hp, e0⟩ := first_of k _ _ h; exact ⟨hp, by rw [e0]; rfl⟩
        · obtain ⟨hp, e0⟩ := first_of k _ _ h; exact ⟨hp, by rw [e0]; rfl⟩
      obtain ⟨hp, hv⟩ := hv
      exact names_an _ k w hk hp hb' h2 h3 hv
  · exact names_bool _ k w hb (by rw [jv_bool k hb]; rfl)

/-! ### STEP 1: THE WALK: the Go text returns true. 'Grown w w'': the world has at most new blocks (Derived/RowKit3.lean). Part the cases AHEAD of 'go_enter' where a test parts the walk; take each callee by a contract of your own. -/
theorem walk (a0 : ByteArray) (a1 : ByteArray) (w0 : a0.size ≤ maxLen) (w1 : a1.size ≤ maxLen) (w : World) :
    Calls Try.prog 3 #[.string a0, .string a1] w fun e w' => e = .returned (.bool true) ∧ Grown w w' := by
  unfold maxLen at w0 w1
  by_cases hsum : a0.size + a1.size ≤ 1048576
  · by_cases h0 : a0.size ≤ 4096
    · by_cases h1 : a1.size ≤ 4096
      · have hj := jv_inj a0 a1
        cases he : a0.toList == a1.toList
        all_goals
          rw [he] at hj
          go_enter Try.func3, Try.ntmps3
          go_wp2_with (first | (go_at_call 5; refine (bytes5_yes _ _ _ hsum).mono ?_; rintro e wx ⟨rfl, rfl⟩) | (go_at_call 6; refine (f6 _ _ (by assumption)).mono ?_; rintro e wx ⟨rfl, rfl⟩) | (go_at_call 7; refine (names_any _ _ h0).mono ?_; rintro e wx ⟨rfl, rfl⟩))
          go_ret
          exact ⟨rfl, Grown.refl _⟩
      · go_enter Try.func3, Try.ntmps3
        go_wp2_with (go_at_call 5; refine (bytes5_yes _ _ _ hsum).mono ?_; rintro e w' ⟨rfl, rfl⟩)
        go_ret
        exact ⟨rfl, Grown.refl _⟩
    · go_enter Try.func3, Try.ntmps3
      go_wp2_with (go_at_call 5; refine (bytes5_yes _ _ _ hsum).mono ?_; rintro e w' ⟨rfl, rfl⟩)
      go_ret
      exact ⟨rfl, Grown.refl _⟩
  · go_enter Try.func3, Try.ntmps3
    go_wp2_with (go_at_call 5; refine (bytes5_no _ _ _ hsum w0 w1).mono ?_; rintro e w' ⟨rfl, rfl⟩)
    go_ret
    exact ⟨rfl, Grown.refl _⟩

/-! ### THE ROW's STEP: WRITTEN OUT: LEAVE IT -/
set_option maxRecDepth 100000 in
theorem lifted (os : Os) (started : os.Started) (H : Type) (enc : TypeId × Value → H) :
    ReturnsInHanded {} Try.checked os 3 .any (Rows.fnJsonValueNamesEachKindOnceSpec.pre6 enc Try.prog Try.f3 Rows.fnJsonValueNamesEachKindOnceRow.domain false) (Rows.fnJsonValueNamesEachKindOnceSpec.post enc Try.prog Try.f3 false true false false) := by
  refine returnsInHanded_of_change (C := Try.checked) own started (by kernel_rfl) Try.func3
    (ChangeSpec.witness6 (enc := enc) (C := Try.checked) false ⟨#[], #[.string ByteArray.empty, .string ByteArray.empty], []⟩ 8 (by kernel_rfl) (by kernel_rfl) (by kernel_rfl) (by kernel_rfl)) ?_
  intro W base args ds gs before hval0 hW hcnd _
  have hval : ∀ (j : Nat) t v, Try.f3.params[j]? = some t → args[j]? = some v → Value.okWide Try.prog W .any base t v := hval0
  have hW' := hW
  obtain ⟨p, q, hA0, hV, rfl, hfz, hnd⟩ := hW
  have hA : DataW.TrodAll enc Try.prog W 0 (fun _ => true) true Try.f3.params.toList args.toList ds p := hA0
  rw [Try.params3] at hA hval
  obtain ⟨v0, vs0, d0, ds0, p0, q0, hargs, rfl, rfl, h0, r0⟩ := trodAll_cons hA
  obtain ⟨v1, vs1, d1, ds1, p1, q1, rfl, rfl, rfl, h1, r1⟩ := trodAll_cons r0
  obtain ⟨rfl, rfl, rfl⟩ := trodAll_nil r1
  obtain rfl : args = #[v0, v1] := by cases args; simp_all
  obtain ⟨rfl, rfl⟩ := trodVars_none hV
  obtain ⟨a0, rfl, rfl, rfl, w0⟩ := open_string Try.underlying9 (hval 0 9 v0 rfl rfl) h0
  obtain ⟨a1, rfl, rfl, rfl, w1⟩ := open_string Try.underlying9 (hval 1 9 v1 rfl rfl) h1
  clear hA0 hval0
  simp only [List.append_nil] at hW'
  refine (walk a0 a1 w0 w1 W).mono fun e W' ⟨he, hg⟩ => ?_
  subst he
  exact ⟨_, rfl, post_of_same (pa := []) (pv := []) hW' (fun _ _ _ => (trodAll_cons_mk (shut_bool Try.underlying4 _) trodAll_mk0)) (fun sp _ => (trodAll_cons_mk (shut_string Try.underlying9 w0) (trodAll_cons_mk (shut_string Try.underlying9 w1) trodAll_mk0))) (fun _ _ => rfl) rfl
    (hg.frame _) hg.2.1 (ok_one (by kernel_rfl) rfl (okWide_bool_mk Try.underlying4 _))⟩

theorem over : Rows.fnJsonValueNamesEachKindOnceRow.holds Try.pinned (OpenSpec.ofChange Rows.fnJsonValueNamesEachKindOnceSpec) :=
  OpenClaim.holds_of_wide 3 Try.f3 rfl rfl rfl rfl rfl rfl rfl ⟨rfl, rfl, rfl, rfl, rfl⟩ rfl rfl rfl rfl rfl (by kernel_rfl) Try.func3 (by kernel_rfl)
    (of_decide_eq_true (by kernel_rfl)) (by unfold Func.isWrapper; first | (rw [if_pos (by decide +kernel)]; kernel_rfl) | (rw [if_neg (by decide +kernel)]; exact ⟨rfl, rfl⟩))
    (fun os started H enc _ => lifted os started H enc)

/-- ████ THE STATEMENT ████ -/
theorem proved : Rows.FnJsonValueNamesEachKindOnceSaid :=
  over
#print axioms proved
end Go.Proofs.Qxb6619408a.fnJsonValueNamesEachKindOnce
