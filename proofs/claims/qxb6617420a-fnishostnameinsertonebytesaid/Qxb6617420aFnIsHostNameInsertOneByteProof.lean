/-
  The proof of 'Rows.FnIsHostNameInsertOneByteSaid': the frame is the given shell's; the walk is ours (contracts: Qxb6617420aHost).
-/
import Derived.Test.Qxb6617420aRows
import Derived.Test.Qxb6617420aHost
import Derived.WalkKit
import Derived.RegionTactic
import Derived.ProofKit
import Derived.OpenShut
import Derived.ShutString
namespace Go.Proofs.Qxb6617420a.fnIsHostNameInsertOneByte
open Go.ChangeShapes Go.WideShapes Go.ChangeAt Go.RowKit
open Go.ChangeMaps (open_string shut_string)
set_option linter.unusedVariables false      -- a walk need not use every 'w<i>' (that an integer argument fits its kind)

theorem own : ownKnob Try.prog.godebug = none := by kernel_rfl

theorem conv_one (c : Int) (W : World) : Sem.run Try.prog (convert 26 9 (.slice (some ⟨W.heap.size, 0, none⟩) 1 1)) (W.alloc (.cells #[.int .u8 c] 5)).drew =
    .ok (.string ⟨#[UInt8.ofNat c.toNat]⟩) (W.alloc (.cells #[.int .u8 c] 5)).drew := by
  rw [run_convert_bytes_string _ 26 9 5 _ _ _ Try.underlying26 Try.underlying5 Try.underlying9,
    run_bytesToString _ _ 1 _ [c] (run_loadCells_list _ _ [Value.int .u8 c] (fun j v h => by
      cases j with
      | zero => simp at h; subst h; go_simp
      | succ j => simp at h))]
  rfl

theorem hostN_eq (a : ByteArray) (h : a.toList.isEmpty = false) : hostN a = hostL a.data.toList := by
  unfold hostN; rw [ByteArray.toList_eq] at h; simp [h]
theorem hostL_nil (a : ByteArray) (h : a.toList.isEmpty = true) : hostL a.data.toList = true := by
  rw [ByteArray.toList_eq] at h; simp at h; simp [hostL, h]
theorem host_put (s : ByteArray) (n c : Nat) (hn : n ≤ s.size) (hc : c < 256) : hostN (s.extract 0 n ++ ⟨#[UInt8.ofNat c]⟩ ++ s.extract n s.size) = (hb c && hostL s.data.toList) := by
  have e : (s.extract 0 n ++ ⟨#[UInt8.ofNat c]⟩ ++ s.extract n s.size).data.toList = s.data.toList.take n ++ ([UInt8.ofNat c] ++ s.data.toList.drop n) := by
    have h1 : s.size = s.data.toList.length := by simp
    simp [List.take_of_length_le]
  have ec : (UInt8.ofNat c).toNat = c := by simp; omega
  have es : hostL s.data.toList = (hostL (s.data.toList.take n) && hostL (s.data.toList.drop n)) := by
    unfold hostL
    rw [← List.all_append, List.take_append_drop]
  unfold hostN
  rw [e, es]
  unfold hostL
  simp only [List.all_append, List.all_cons, List.all_nil, ec]
  cases (s.data.toList.take n).all (fun b => hb b.toNat) <;> cases hb c <;> cases (s.data.toList.drop n).all (fun b => hb b.toNat) <;> simp

set_option maxHeartbeats 1000000 in
theorem core (s : ByteArray) (n c : Nat) (w : World) (hsz : s.size ≤ 1048576) (hi1 : (n : Int) ≤ (s.size : Int)) (hc1 : (c : Int) ≤ 255)
    (x e y : Bool) (hx : hb c = x) (he : s.toList.isEmpty = e) (hy : hostN s = y) (ht : hostN (s.extract 0 n ++ ⟨#[UInt8.ofNat c]⟩ ++ s.extract n s.size) = (x && (e || y))) :
    Calls Try.prog 4 #[.string s, .int .i64 n, .int .u8 c] w fun e w' => e = .returned (.bool true) ∧ Grown w w' := by
  have hcv := conv_one c
  simp only [Int.toNat_natCast] at hcv
  have hn : n ≤ s.size := by omega
  cases x <;> cases e <;> cases y
  all_goals
    simp only [Bool.and_true, Bool.and_false, Bool.or_true, Bool.or_false] at ht
    go_enter Try.func4, Try.ntmps4
    go_wp2_with (first | (go_at_call 8; refine (bytes4_yes _ _ _ _ hsz).mono ?_; rintro e wx ⟨rfl, rfl⟩))
    go_region
    go_wp2_with (first | (go_at_call 7; refine (hostByte_any _ _).mono ?_; rintro e wx ⟨rfl, rfl⟩) | (go_at_call 6; refine (zzHost_any _ _).mono ?_; rintro e wx ⟨rfl, hg⟩))
    go_ret
    exact ⟨rfl, by repeat (first | exact Grown.refl _ | assumption | refine grown_trans ?_ (by assumption) | apply Grown.drew | apply Grown.alloc)⟩

/-! ### STEP 1: THE WALK: the Go text returns true. 'Grown w w'': the world has at most new blocks (Derived/RowKit3.lean). Part the cases AHEAD of 'go_enter' where a test parts the walk; take each callee by a contract of your own. -/
theorem walk (a0 : ByteArray) (a1 : Int) (a2 : Int) (w0 : a0.size ≤ maxLen) (w1 : (Lit.int .i64 a1).wf = true) (w2 : (Lit.int .u8 a2).wf = true) (w : World) :
    Calls Try.prog 4 #[.string a0, .int .i64 a1, .int .u8 a2] w fun e w' => e = .returned (.bool true) ∧ Grown w w' := by
  unfold maxLen at w0
  by_cases hsz : a0.size ≤ 1048576
  · by_cases hi : 0 ≤ a1 ∧ a1 ≤ a0.size
    · obtain ⟨hi0, hi1⟩ := hi
      obtain ⟨n, rfl⟩ := Int.eq_ofNat_of_zero_le hi0
      obtain ⟨hc0, hc1⟩ := bounds_u8 w2
      obtain ⟨c, rfl⟩ := Int.eq_ofNat_of_zero_le hc0
      refine core a0 n c w hsz hi1 hc1 _ _ _ rfl rfl rfl ?_
      rw [host_put a0 n c (by omega) (by omega)]
      cases he : a0.toList.isEmpty
      · rw [hostN_eq a0 he]; rfl
      · rw [hostL_nil a0 he]; rfl
    · by_cases hneg : a1 < 0
      · go_enter Try.func4, Try.ntmps4
        go_wp2_with (go_at_call 8; refine (bytes4_yes _ _ _ _ hsz).mono ?_; rintro e w' ⟨rfl, rfl⟩)
        go_ret
        exact ⟨rfl, Grown.refl _⟩
      · go_enter Try.func4, Try.ntmps4
        go_wp2_with (go_at_call 8; refine (bytes4_yes _ _ _ _ hsz).mono ?_; rintro e w' ⟨rfl, rfl⟩)
        go_ret
        exact ⟨rfl, Grown.refl _⟩
  · go_enter Try.func4, Try.ntmps4
    go_wp2_with (go_at_call 8; refine (bytes4_no _ _ _ _ hsz w0).mono ?_; rintro e w' ⟨rfl, rfl⟩)
    go_ret
    exact ⟨rfl, Grown.refl _⟩

/-! ### THE ROW's STEP: WRITTEN OUT: LEAVE IT -/
set_option maxRecDepth 100000 in
theorem lifted (os : Os) (started : os.Started) (H : Type) (enc : TypeId × Value → H) :
    ReturnsInHanded {} Try.checked os 4 .any (Rows.fnIsHostNameInsertOneByteSpec.pre6 enc Try.prog Try.f4 Rows.fnIsHostNameInsertOneByteRow.domain false) (Rows.fnIsHostNameInsertOneByteSpec.post enc Try.prog Try.f4 false true false false) := by
  refine returnsInHanded_of_change (C := Try.checked) own started (by kernel_rfl) Try.func4
    (ChangeSpec.witness6 (enc := enc) (C := Try.checked) false ⟨#[], #[.string ByteArray.empty, .int .i64 0, .int .u8 0], []⟩ 8 (by kernel_rfl) (by kernel_rfl) (by kernel_rfl) (by kernel_rfl)) ?_
  intro W base args ds gs before hval0 hW hcnd _
  have hval : ∀ (j : Nat) t v, Try.f4.params[j]? = some t → args[j]? = some v → Value.okWide Try.prog W .any base t v := hval0
  have hW' := hW
  obtain ⟨p, q, hA0, hV, rfl, hfz, hnd⟩ := hW
  have hA : DataW.TrodAll enc Try.prog W 0 (fun _ => true) true Try.f4.params.toList args.toList ds p := hA0
  rw [Try.params4] at hA hval
  obtain ⟨v0, vs0, d0, ds0, p0, q0, hargs, rfl, rfl, h0, r0⟩ := trodAll_cons hA
  obtain ⟨v1, vs1, d1, ds1, p1, q1, rfl, rfl, rfl, h1, r1⟩ := trodAll_cons r0
  obtain ⟨v2, vs2, d2, ds2, p2, q2, rfl, rfl, rfl, h2, r2⟩ := trodAll_cons r1
  obtain ⟨rfl, rfl, rfl⟩ := trodAll_nil r2
  obtain rfl : args = #[v0, v1, v2] := by cases args; simp_all
  obtain ⟨rfl, rfl⟩ := trodVars_none hV
  obtain ⟨a0, rfl, rfl, rfl, w0⟩ := open_string Try.underlying9 (hval 0 9 v0 rfl rfl) h0
  obtain ⟨a1, rfl, rfl, rfl, w1⟩ := open_int Try.underlying3 (hval 1 3 v1 rfl rfl) h1
  obtain ⟨a2, rfl, rfl, rfl, w2⟩ := open_int Try.underlying5 (hval 2 5 v2 rfl rfl) h2
  clear hA0 hval0
  simp only [List.append_nil] at hW'
  refine (walk a0 a1 a2 w0 w1 w2 W).mono fun e W' ⟨he, hg⟩ => ?_
  subst he
  exact ⟨_, rfl, post_of_same (pa := []) (pv := []) hW' (fun _ _ _ => (trodAll_cons_mk (shut_bool Try.underlying4 _) trodAll_mk0)) (fun sp _ => (trodAll_cons_mk (shut_string Try.underlying9 w0) (trodAll_cons_mk (shut_int Try.underlying3 w1) (trodAll_cons_mk (shut_int Try.underlying5 w2) trodAll_mk0)))) (fun _ _ => rfl) rfl
    (hg.frame _) hg.2.1 (ok_one (by kernel_rfl) rfl (okWide_bool_mk Try.underlying4 _))⟩

theorem over : Rows.fnIsHostNameInsertOneByteRow.holds Try.pinned (OpenSpec.ofChange Rows.fnIsHostNameInsertOneByteSpec) :=
  OpenClaim.holds_of_wide 4 Try.f4 rfl rfl rfl rfl rfl rfl rfl ⟨rfl, rfl, rfl, rfl, rfl⟩ rfl rfl rfl rfl rfl (by kernel_rfl) Try.func4 (by kernel_rfl)
    (of_decide_eq_true (by kernel_rfl)) (by unfold Func.isWrapper; first | (rw [if_pos (by decide +kernel)]; kernel_rfl) | (rw [if_neg (by decide +kernel)]; exact ⟨rfl, rfl⟩))
    (fun os started H enc _ => lifted os started H enc)

/-- ████ THE STATEMENT ████ -/
theorem proved : Rows.FnIsHostNameInsertOneByteSaid :=
  over
#print axioms proved
end Go.Proofs.Qxb6617420a.fnIsHostNameInsertOneByte
