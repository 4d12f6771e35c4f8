/-
  The proof of 'Rows.FnBucketAddFillsInOrderWithinItsRoomSaid': the walk's core lies in Qxb6619336aLaw3; here are the ways that leave early, and the step to the row (after the guide's frame for a law over slices).
-/
import Derived.Test.Qxb6619336aLaw3
import Derived.Test.Qxb6619336aOpen
namespace Go.Proofs.Qxb6619336a.fnBucketAddFillsInOrderWithinItsRoom
open Go.ChangeShapes Go.WideShapes Go.ChangeAt Go.RowKit

theorem own : ownKnob Try.prog.godebug = none := by kernel_rfl
theorem laidOut : laidOutB Try.prog = true := by kernel_rfl

/-! ### the ways that leave early -/
set_option maxRecDepth 1000000 in
set_option maxHeartbeats 2000000 in
theorem early (a1 a2 : Option Addr) (c1 c2 : Nat) (ns cs : List Pr) (r : Int) (fl : Bool) (w : World) (h1 : Ps w a1 ns) (h2 : Ps w a2 cs) (m1 : ns.length ≤ maxLen) (m2 : cs.length ≤ maxLen)
    (hx : 4096 < ns.length ∨ 4096 < cs.length ∨ r < 0 ∨ 4096 < r) :
    Calls Try.prog 3 #[.slice a1 ns.length c1, .int .i64 r, .bool fl, .slice a2 cs.length c2] w fun e w' => e = .returned (.bool true) ∧ Below w.heap.size w w' := by
  have hb := bytes6 a1 c1 ns a2 c2 cs r fl w h1 m1 h2 m2
  have Hb : Hid _ := hb
  clear hb
  have hx' : 4096 < ns.length ∨ (¬ 4096 < ns.length ∧ 4096 < cs.length) ∨ ((¬ 4096 < ns.length ∧ ¬ 4096 < cs.length) ∧ r < 0) ∨ ((¬ 4096 < ns.length ∧ ¬ 4096 < cs.length) ∧ ¬ r < 0 ∧ 4096 < r) := by omega
  clear hx
  rcases hx' with q1 | ⟨q1, q2⟩ | ⟨⟨q1, q2⟩, q3⟩ | ⟨⟨q1, q2⟩, q3, q4⟩
  all_goals
    go_enter Try.func3, Try.ntmps3
    go_wp2_with fail
    refine Calls.mono Hb.out ?_
    rintro e wx ⟨⟨bo, rfl⟩, hw⟩
    have hw := hw.symm
    subst hw
    cases bo
    all_goals
      go_wp2
      go_ret
      exact ⟨rfl, Below.refl _ _⟩

set_option maxRecDepth 1000000 in
set_option maxHeartbeats 2000000 in
theorem long (a1 a2 : Option Addr) (c1 c2 : Nat) (ns cs : List Pr) (r : Nat) (fl : Bool) (w : World) (h1 : Ps w a1 ns) (h2 : Ps w a2 cs) (l0 : 20 ≤ ns.length) (l1 : ns.length ≤ 4096) (l2 : cs.length ≤ 4096) (hr : r ≤ 4096) :
    Calls Try.prog 3 #[.slice a1 ns.length c1, .int .i64 r, .bool fl, .slice a2 cs.length c2] w fun e w' => e = .returned (.bool true) ∧ Below w.heap.size w w' := by
  have m1 : ns.length ≤ maxLen := by unfold maxLen; omega
  have m2 : cs.length ≤ maxLen := by unfold maxLen; omega
  go_enter Try.func3, Try.ntmps3
  go_wp2_with fail
  refine (bytes6 _ _ _ _ _ _ _ _ _ h1 m1 h2 m2).mono ?_
  rintro e wx ⟨⟨bo, rfl⟩, hw⟩
  have hw := hw.symm
  subst hw
  cases bo
  · go_wp2
    go_ret
    exact ⟨rfl, Below.refl _ _⟩
  clear m1 m2
  go_wp2_with fail
  refine (zzBytes_any 0 a1 c1 ns w (by omega) (by omega) (by omega) h1).mono ?_
  rintro e wx ⟨⟨s1, rfl, p1, p2⟩, hw⟩
  have hw := hw.symm
  subst hw
  go_wp2_with fail
  refine (zzBytes_any s1 a2 c2 cs w p1 p2 (by omega) h2).mono ?_
  rintro e wx ⟨⟨s2, rfl, p3, p4⟩, hw⟩
  have hw := hw.symm
  subst hw
  by_cases hs2 : 1048576 < s2
  · go_wp2
    go_ret
    exact ⟨rfl, Below.refl _ _⟩
  · go_wp2
    go_ret
    exact ⟨rfl, Below.refl _ _⟩

theorem walk (a1 a2 : Option Addr) (c1 c2 : Nat) (ns cs : List Pr) (r : Int) (fl : Bool) (w : World) (h1 : Ps w a1 ns) (h2 : Ps w a2 cs) (m1 : ns.length ≤ maxLen) (m2 : cs.length ≤ maxLen) :
    Calls Try.prog 3 #[.slice a1 ns.length c1, .int .i64 r, .bool fl, .slice a2 cs.length c2] w fun e w' => e = .returned (.bool true) ∧ Below w.heap.size w w' := by
  by_cases hx : 4096 < ns.length ∨ 4096 < cs.length ∨ r < 0 ∨ 4096 < r
  · exact early a1 a2 c1 c2 ns cs r fl w h1 h2 m1 m2 hx
  · obtain ⟨k, rfl⟩ := Int.eq_ofNat_of_zero_le (show 0 ≤ r by omega)
    by_cases h20 : ns.length < 20
    · exact law3_core a1 a2 c1 c2 ns cs k fl w h1 h2 h20 (by omega) (by omega)
    · exact long a1 a2 c1 c2 ns cs k fl w h1 h2 (by omega) (by omega) (by omega) (by omega)

/-! ### the row's step -/
set_option maxRecDepth 100000 in
theorem lifted (os : Os) (started : os.Started) (H : Type) (enc : TypeId × Value → H) :
    ReturnsInHanded {} Try.checked os 3 .any (Rows.fnBucketAddFillsInOrderWithinItsRoomSpec.pre6 enc Try.prog Try.f3 Rows.fnBucketAddFillsInOrderWithinItsRoomRow.domain false) (Rows.fnBucketAddFillsInOrderWithinItsRoomSpec.post enc Try.prog Try.f3 false true false false) := by
  refine returnsInHanded_of_change (C := Try.checked) own started (by kernel_rfl) Try.func3
    (ChangeSpec.witness6 (enc := enc) (C := Try.checked) false ⟨#[], #[.slice none 0 0, .int .i64 0, .bool false, .slice none 0 0], []⟩ 8 (by kernel_rfl) (by kernel_rfl) (by kernel_rfl) (by kernel_rfl)) ?_
  intro W base args ds gs before hval0 hW hcnd _
  have hval : ∀ (j : Nat) t v, Try.f3.params[j]? = some t → args[j]? = some v → Value.okWide Try.prog W .any base t v := hval0
  have hW' := hW
  obtain ⟨p, q, hA0, hV, rfl, hfz, hnd⟩ := hW
  have hA : DataW.TrodAll enc Try.prog W 0 (fun _ => true) true Try.f3.params.toList args.toList ds p := hA0
  rw [Try.params3] at hA hval
  obtain ⟨v0, vs0, d0, ds0, p0, q0, hargs, rfl, rfl, h0, r0⟩ := trodAll_cons hA
  obtain ⟨v1, vs1, d1, ds1, p1, q1, rfl, rfl, rfl, h1, r1⟩ := trodAll_cons r0
  obtain ⟨v2, vs2, d2, ds2, p2, q2, rfl, rfl, rfl, h2, r2⟩ := trodAll_cons r1
  obtain ⟨v3, vs3, d3, ds3, p3, q3, rfl, rfl, rfl, h3, r3⟩ := trodAll_cons r2
  obtain ⟨rfl, rfl, rfl⟩ := trodAll_nil r3
  obtain rfl : args = #[v0, v1, v2, v3] := by cases args; simp_all
  obtain ⟨rfl, rfl⟩ := trodVars_none hV
  obtain ⟨a0, len0, cap0, rfl⟩ := okWide_slice Try.underlying22 (hval 0 22 v0 rfl rfl)
  obtain ⟨a3, len3, cap3, rfl⟩ := okWide_slice Try.underlying22 (hval 3 22 v3 rfl rfl)
  have k0 := h0
  have lt0 : ∀ x ∈ p0, x.block < W.heap.size := by obtain ⟨m, hm⟩ := k0; exact DataW.trod_lt m _ _ _ hm
  have k3 := h3
  have lt3 : ∀ x ∈ p3, x.block < W.heap.size := by obtain ⟨m, hm⟩ := k3; exact DataW.trod_lt m _ _ _ hm
  obtain ⟨f0, hf0⟩ := h0
  obtain ⟨ns, rfl, m0, hp0, _⟩ := open_peers (by simpa [Value.cells] using hf0)
  obtain ⟨f3, hf3⟩ := h3
  obtain ⟨cs, rfl, m3, hp3, _⟩ := open_peers (by simpa [Value.cells] using hf3)
  obtain ⟨r, rfl, rfl, rfl, w1⟩ := open_int Try.underlying3 (hval 1 3 v1 rfl rfl) h1
  obtain ⟨fl, rfl, rfl, rfl⟩ := open_bool Try.underlying4 (hval 2 4 v2 rfl rfl) h2
  clear hA0 hval0
  refine (walk a0 a3 cap0 cap3 ns cs r fl W hp0 hp3 m0 m3).mono fun e W' ⟨he, bel⟩ => ?_
  subst he
  exact ⟨_, rfl, _, _, _, [], _, [], hW', trodAll_mk1 (shut_bool Try.underlying4 _), (trodAll_cons_mk (Below.trod laidOut (by kernel_rfl) (of_decide_eq_true (by kernel_rfl)) k0 bel lt0) (trodAll_cons_mk (shut_int Try.underlying3 w1) (trodAll_cons_mk (shut_bool Try.underlying4 fl) (trodAll_cons_mk (Below.trod laidOut (by kernel_rfl) (of_decide_eq_true (by kernel_rfl)) k3 bel lt3) trodAll_mk0)))), rfl, bel.frame _, fun h => by cases h⟩

theorem over : Rows.fnBucketAddFillsInOrderWithinItsRoomRow.holds Try.pinned (OpenSpec.ofChange Rows.fnBucketAddFillsInOrderWithinItsRoomSpec) :=
  OpenClaim.holds_of_wide 3 Try.f3 rfl rfl rfl rfl rfl rfl rfl ⟨rfl, rfl, rfl, rfl, rfl⟩ rfl rfl rfl rfl rfl (by kernel_rfl) Try.func3 (by kernel_rfl)
    (of_decide_eq_true (by kernel_rfl)) (by unfold Func.isWrapper; first | (rw [if_pos (by decide +kernel)]; kernel_rfl) | (rw [if_neg (by decide +kernel)]; exact ⟨rfl, rfl⟩))
    (fun os started H enc _ => lifted os started H enc)

theorem proved : Rows.FnBucketAddFillsInOrderWithinItsRoomSaid :=
  over
#print axioms proved
end Go.Proofs.Qxb6619336a.fnBucketAddFillsInOrderWithinItsRoom
