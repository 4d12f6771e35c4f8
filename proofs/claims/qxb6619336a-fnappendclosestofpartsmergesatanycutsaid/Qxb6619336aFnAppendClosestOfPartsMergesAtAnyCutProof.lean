/-
  The proof of 'Rows.FnAppendClosestOfPartsMergesAtAnyCutSaid': the walk's core lies in Qxb6619336aLaw5; here are the ways that leave early, and the step to the row (after the guide's frame for a law over slices).
-/
import Derived.Test.Qxb6619336aLaw5
namespace Go.Proofs.Qxb6619336a.fnAppendClosestOfPartsMergesAtAnyCut
open Go.ChangeShapes Go.WideShapes Go.ChangeAt Go.RowKit

theorem own : ownKnob Try.prog.godebug = none := by kernel_rfl
theorem laidOut : laidOutB Try.prog = true := by kernel_rfl
theorem i64_bounds {n : Int} (h : (Lit.int .i64 n).wf = true) : -9223372036854775808 ≤ n ∧ n ≤ 9223372036854775807 := by
  simp [Lit.wf, IntKind.min, IntKind.max, IntKind.signed, IntKind.bits] at h
  omega

/-! ### the ways that leave early -/
set_option maxRecDepth 1000000 in
set_option maxHeartbeats 2000000 in
theorem early (a1 a2 a3 : Option Addr) (c1 c2 c3 : Nat) (cl xs ys : List Pr) (ta tb tc n : Int) (w : World) (h1 : Ps w a1 cl) (h2 : Ps w a2 xs) (h3 : Ps w a3 ys) (m1 : cl.length ≤ maxLen) (m2 : xs.length ≤ maxLen) (m3 : ys.length ≤ maxLen)
    (hx : 4096 < cl.length ∨ 4096 < xs.length ∨ 4096 < ys.length) :
    Calls Try.prog 5 #[.slice a1 cl.length c1, .slice a2 xs.length c2, .slice a3 ys.length c3, .int .u64 ta, .int .u64 tb, .int .u64 tc, .int .i64 n] w fun e w' => e = .returned (.bool true) ∧ Below w.heap.size w w' := by
  have hb := bytes18 a1 c1 cl a2 c2 xs a3 c3 ys ta tb tc n w h1 m1 h2 m2 h3 m3
  have Hb : Hid _ := hb
  clear hb
  have hx' : 4096 < cl.length ∨ (¬ 4096 < cl.length ∧ 4096 < xs.length) ∨ (¬ 4096 < cl.length ∧ ¬ 4096 < xs.length ∧ 4096 < ys.length) := by omega
  clear hx
  rcases hx' with q1 | ⟨q1, q2⟩ | ⟨q1, q2, q3⟩
  all_goals
    go_enter Try.func5, Try.ntmps5
    go_wp2_with fail
    refine Calls.mono Hb.out ?_
    rintro e wx ⟨⟨bo, rfl⟩, hw⟩
    have hw := hw.symm
    subst hw
    cases bo
    all_goals
      go_wp2
      go_ret
      exact ⟨rfl, Below.refl _ _⟩

theorem walk (a1 a2 a3 : Option Addr) (c1 c2 c3 : Nat) (cl xs ys : List Pr) (ta tb tc n : Int) (w : World) (h1 : Ps w a1 cl) (h2 : Ps w a2 xs) (h3 : Ps w a3 ys) (m1 : cl.length ≤ maxLen) (m2 : xs.length ≤ maxLen) (m3 : ys.length ≤ maxLen)
    (ht : Tok ta tb tc) (hokx : ∀ q ∈ xs, q.ok) (hoky : ∀ q ∈ ys, q.ok) (hn1 : -9223372036854775808 ≤ n) (hn2 : n ≤ 9223372036854775807) :
    Calls Try.prog 5 #[.slice a1 cl.length c1, .slice a2 xs.length c2, .slice a3 ys.length c3, .int .u64 ta, .int .u64 tb, .int .u64 tc, .int .i64 n] w fun e w' => e = .returned (.bool true) ∧ Below w.heap.size w w' := by
  by_cases hx : 4096 < cl.length ∨ 4096 < xs.length ∨ 4096 < ys.length
  · exact early a1 a2 a3 c1 c2 c3 cl xs ys ta tb tc n w h1 h2 h3 m1 m2 m3 hx
  · exact law5_core a1 a2 a3 c1 c2 c3 cl xs ys ta tb tc n w h1 h2 h3 (by omega) (by omega) (by omega) ht hokx hoky hn1 hn2

/-! ### the row's step -/
set_option maxRecDepth 100000 in
theorem lifted (os : Os) (started : os.Started) (H : Type) (enc : TypeId × Value → H) :
    ReturnsInHanded {} Try.checked os 5 .any (Rows.fnAppendClosestOfPartsMergesAtAnyCutSpec.pre6 enc Try.prog Try.f5 Rows.fnAppendClosestOfPartsMergesAtAnyCutRow.domain false) (Rows.fnAppendClosestOfPartsMergesAtAnyCutSpec.post enc Try.prog Try.f5 false true false false) := by
  refine returnsInHanded_of_change (C := Try.checked) own started (by kernel_rfl) Try.func5
    (ChangeSpec.witness6 (enc := enc) (C := Try.checked) false ⟨#[], #[.slice none 0 0, .slice none 0 0, .slice none 0 0, .int .u64 0, .int .u64 0, .int .u64 0, .int .i64 0], []⟩ 8 (by kernel_rfl) (by kernel_rfl) (by kernel_rfl) (by kernel_rfl)) ?_
  intro W base args ds gs before hval0 hW hcnd _
  have hval : ∀ (j : Nat) t v, Try.f5.params[j]? = some t → args[j]? = some v → Value.okWide Try.prog W .any base t v := hval0
  have hW' := hW
  obtain ⟨p, q, hA0, hV, rfl, hfz, hnd⟩ := hW
  have hA : DataW.TrodAll enc Try.prog W 0 (fun _ => true) true Try.f5.params.toList args.toList ds p := hA0
  rw [Try.params5] at hA hval
  obtain ⟨v0, vs0, d0, ds0, p0, q0, hargs, rfl, rfl, h0, r0⟩ := trodAll_cons hA
  obtain ⟨v1, vs1, d1, ds1, p1, q1, rfl, rfl, rfl, h1, r1⟩ := trodAll_cons r0
  obtain ⟨v2, vs2, d2, ds2, p2, q2, rfl, rfl, rfl, h2, r2⟩ := trodAll_cons r1
  obtain ⟨v3, vs3, d3, ds3, p3, q3, rfl, rfl, rfl, h3, r3⟩ := trodAll_cons r2
  obtain ⟨v4, vs4, d4, ds4, p4, q4, rfl, rfl, rfl, h4, r4⟩ := trodAll_cons r3
  obtain ⟨v5, vs5, d5, ds5, p5, q5, rfl, rfl, rfl, h5, r5⟩ := trodAll_cons r4
  obtain ⟨v6, vs6, d6, ds6, p6, q6, rfl, rfl, rfl, h6, r6⟩ := trodAll_cons r5
  obtain ⟨rfl, rfl, rfl⟩ := trodAll_nil r6
  obtain rfl : args = #[v0, v1, v2, v3, v4, v5, v6] := by cases args; simp_all
  obtain ⟨rfl, rfl⟩ := trodVars_none hV
  obtain ⟨a0, len0, cap0, rfl⟩ := okWide_slice Try.underlying22 (hval 0 22 v0 rfl rfl)
  obtain ⟨a1, len1, cap1, rfl⟩ := okWide_slice Try.underlying22 (hval 1 22 v1 rfl rfl)
  obtain ⟨a2, len2, cap2, rfl⟩ := okWide_slice Try.underlying22 (hval 2 22 v2 rfl rfl)
  have k0 := h0
  have lt0 : ∀ x ∈ p0, x.block < W.heap.size := by obtain ⟨m, hm⟩ := k0; exact DataW.trod_lt m _ _ _ hm
  have k1 := h1
  have lt1 : ∀ x ∈ p1, x.block < W.heap.size := by obtain ⟨m, hm⟩ := k1; exact DataW.trod_lt m _ _ _ hm
  have k2 := h2
  have lt2 : ∀ x ∈ p2, x.block < W.heap.size := by obtain ⟨m, hm⟩ := k2; exact DataW.trod_lt m _ _ _ hm
  obtain ⟨f0, hf0⟩ := h0
  obtain ⟨cl, rfl, m0, hp0, _⟩ := open_peers (by simpa [Value.cells] using hf0)
  obtain ⟨f1, hf1⟩ := h1
  obtain ⟨xs, rfl, m1, hp1, hokx⟩ := open_peers (by simpa [Value.cells] using hf1)
  obtain ⟨f2, hf2⟩ := h2
  obtain ⟨ys, rfl, m2, hp2, hoky⟩ := open_peers (by simpa [Value.cells] using hf2)
  obtain ⟨ta, rfl, rfl, rfl, w3⟩ := open_int Try.underlying29 (hval 3 29 v3 rfl rfl) h3
  obtain ⟨tb, rfl, rfl, rfl, w4⟩ := open_int Try.underlying29 (hval 4 29 v4 rfl rfl) h4
  obtain ⟨tc, rfl, rfl, rfl, w5⟩ := open_int Try.underlying29 (hval 5 29 v5 rfl rfl) h5
  obtain ⟨n, rfl, rfl, rfl, w6⟩ := open_int Try.underlying3 (hval 6 3 v6 rfl rfl) h6
  clear hA0 hval0
  refine (walk a0 a1 a2 cap0 cap1 cap2 cl xs ys ta tb tc n W hp0 hp1 hp2 m0 m1 m2 ⟨u64_bounds w3, u64_bounds w4, u64_bounds w5⟩ hokx hoky (i64_bounds w6).1 (i64_bounds w6).2).mono fun e W' ⟨he, bel⟩ => ?_
  subst he
  exact ⟨_, rfl, _, _, _, [], _, [], hW', trodAll_mk1 (shut_bool Try.underlying4 _), (trodAll_cons_mk (Below.trod laidOut (by kernel_rfl) (of_decide_eq_true (by kernel_rfl)) k0 bel lt0) (trodAll_cons_mk (Below.trod laidOut (by kernel_rfl) (of_decide_eq_true (by kernel_rfl)) k1 bel lt1) (trodAll_cons_mk (Below.trod laidOut (by kernel_rfl) (of_decide_eq_true (by kernel_rfl)) k2 bel lt2) (trodAll_cons_mk (shut_int Try.underlying29 w3) (trodAll_cons_mk (shut_int Try.underlying29 w4) (trodAll_cons_mk (shut_int Try.underlying29 w5) (trodAll_cons_mk (shut_int Try.underlying3 w6) trodAll_mk0))))))), rfl, bel.frame _, fun h => by cases h⟩

theorem over : Rows.fnAppendClosestOfPartsMergesAtAnyCutRow.holds Try.pinned (OpenSpec.ofChange Rows.fnAppendClosestOfPartsMergesAtAnyCutSpec) :=
  OpenClaim.holds_of_wide 5 Try.f5 rfl rfl rfl rfl rfl rfl rfl ⟨rfl, rfl, rfl, rfl, rfl⟩ rfl rfl rfl rfl rfl (by kernel_rfl) Try.func5 (by kernel_rfl)
    (of_decide_eq_true (by kernel_rfl)) (by unfold Func.isWrapper; first | (rw [if_pos (by decide +kernel)]; kernel_rfl) | (rw [if_neg (by decide +kernel)]; exact ⟨rfl, rfl⟩))
    (fun os started H enc _ => lifted os started H enc)

theorem proved : Rows.FnAppendClosestOfPartsMergesAtAnyCutSaid :=
  over
#print axioms proved
end Go.Proofs.Qxb6619336a.fnAppendClosestOfPartsMergesAtAnyCut
