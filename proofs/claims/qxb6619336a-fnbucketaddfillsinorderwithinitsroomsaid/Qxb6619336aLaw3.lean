import Derived.Test.Qxb6619336aZadd
import Derived.Test.Qxb6619336aBytes6
import Derived.Test.Qxb6619336aEq
namespace Go.Proofs.Qxb6619336a
open Go.RowKit
attribute [local go_sem ↓] Go.wp_at_zero Go.wp_at_succ

def capInv (s c : Nat) : Prop := (20 ≤ s → c = s) ∧ (s < 20 → c ≤ 20)
/-- the state of the first loop after k contacts -/
structure Lp (w0 w : World) (ns cs : List Pr) (r : Nat) (a : Option Addr) (k : Nat) (ds : List Pr) : Prop where
  sl : Sl w0.heap.size w (.slice a (ns.length + k) ds.length) (ns.length + k) ds
  tk : ds.take (ns.length + k) = ns ++ cs.take k
  cp : capInv (ns.length + r) ds.length
  bl : Below w0.heap.size w0 w

theorem Lp.step {w0 w w' : World} {ns cs : List Pr} {r : Nat} {a a' : Option Addr} {k : Nat} {ds ds' : List Pr} (h : Lp w0 w ns cs r a k ds) (hk : k < cs.length) (h20 : ns.length + k < 20)
    (hs : Sl w0.heap.size w' (.slice a' (ns.length + k + 1) ds'.length) (ns.length + k + 1) ds') (ht : ds'.take (ns.length + k + 1) = ds.take (ns.length + k) ++ [cs[k]]) (hg : ds'.length = growTo (ns.length + k) ds.length)
    (hb : Below w0.heap.size w w') : Lp w0 w' ns cs r a' (k + 1) ds' := by
  refine ⟨hs, ?_, ?_, h.bl.trans hb⟩
  · show ds'.take (ns.length + k + 1) = _
    rw [ht, h.tk, List.take_succ_eq_append_getElem hk, List.append_assoc]
  · have := h.sl.le
    have hc := h.cp
    unfold growTo at hg
    refine ⟨fun q => ?_, fun q => ?_⟩
    · have := hc.1 q
      rw [if_pos (by omega)] at hg
      omega
    · have := hc.2 q
      split at hg <;> omega
/-- contact j of the slice, read: it lies in the row, and it is contact j of what was put in -/
theorem Lp.at {w0 w : World} {ns cs : List Pr} {r : Nat} {a : Option Addr} {k : Nat} {ds : List Pr} (h : Lp w0 w ns cs r a k ds) (j : Nat) (q : Pr) (hj : j < ns.length + k) (hq : (ns ++ cs.take k)[j]? = some q) :
    ∃ g, a = some ⟨g, 0, none⟩ ∧ w0.heap.size ≤ g ∧ g < w.heap.size ∧ w.rangeAt g (j * 5) q.cells := by
  rcases h.sl with ⟨_, h0, _⟩ | ⟨g, hg, hv, hr, hn⟩
  · omega
  · injection hv with hv
    refine ⟨g, hv, hg, hr.lt, ?_⟩
    have e : ds[j]? = some q := by
      rw [← hq, ← h.tk, List.getElem?_take, if_pos hj]
    obtain ⟨hlt, e'⟩ := List.getElem?_eq_some_iff.1 e
    have := hr.range j hlt
    rwa [e'] at this
theorem Lp.below {w0 w w' : World} {ns cs : List Pr} {r : Nat} {a : Option Addr} {k : Nat} {ds : List Pr} (h : Lp w0 w ns cs r a k ds) (hb : Below w.heap.size w w') : Lp w0 w' ns cs r a k ds :=
  ⟨h.sl.below hb, h.tk, h.cp, h.bl.trans (hb.mono h.bl.size)⟩
theorem bcell {W w1 : World} (hb : Below W.heap.size W w1) : (∀ b o, b < W.heap.size → w1.cell? ⟨b, o, none⟩ = W.cell? ⟨b, o, none⟩) :=
  fun b o h => hb.cell (p := ⟨b, o, none⟩) h
theorem grow_le {n c : Nat} (h : n < 20) (hn : n ≤ c) : growTo n c ≤ max c 20 ∧ n + 1 ≤ growTo n c := by
  unfold growTo
  split <;> omega

set_option maxHeartbeats 4000000 in
set_option maxRecDepth 1000000 in
theorem law3_core (a1 a2 : Option Addr) (c1 c2 : Nat) (ns cs : List Pr) (r : Nat) (fl : Bool) (w : World) (h1 : Ps w a1 ns) (h2 : Ps w a2 cs) (l1 : ns.length < 20) (l2 : cs.length ≤ 4096) (hr : r ≤ 4096) :
    Calls Try.prog 3 #[.slice a1 ns.length c1, .int .i64 r, .bool fl, .slice a2 cs.length c2] w fun e w' => e = .returned (.bool true) ∧ Below w.heap.size w w' := by
  have m1 : ns.length ≤ maxLen := by unfold maxLen; omega
  have m2 : cs.length ≤ maxLen := by unfold maxLen; omega
  go_enter Try.func3, Try.ntmps3
  go_wp2_with fail
  refine (bytes6 _ _ _ _ _ _ _ _ _ h1 m1 h2 m2).mono ?_
  rintro e wx ⟨⟨bo, rfl⟩, hw⟩
  have hw := hw.symm
  subst hw
  cases bo
  · go_wp2
    go_ret
    exact ⟨rfl, Below.refl _ _⟩
  clear m1 m2
  go_wp2_with fail
  refine (zzBytes_any 0 a1 c1 ns w (by omega) (by omega) (by omega) h1).mono ?_
  rintro e wx ⟨⟨s1, rfl, p1, p2⟩, hw⟩
  have hw := hw.symm
  subst hw
  go_wp2_with fail
  refine (zzBytes_any s1 a2 c2 cs w p1 p2 (by omega) h2).mono ?_
  rintro e wx ⟨⟨s2, rfl, p3, p4⟩, hw⟩
  have hw := hw.symm
  subst hw
  by_cases hs2 : 1048576 < s2
  · go_wp2
    go_ret
    exact ⟨rfl, Below.refl _ _⟩
  go_wp2_with fail
  refine (contacts_any a1 c1 ns r w h1 (by omega) (by omega)).mono ?_
  rintro e wx ⟨v, rfl, hmade, hb⟩
  have hsl := Sl.of_made hmade
  obtain ⟨a, rfl⟩ := hsl.shape
  have hlp : Lp w wx ns cs r a 0 (ns ++ List.replicate r Pr.zero) := ⟨hsl, by simp, ⟨fun _ => by simp, fun h => by simp; omega⟩, hb⟩
  have hlen : (ns ++ List.replicate r Pr.zero).length = ns.length + r := by simp
  rw [hlen]
  clear hmade hsl hb
  go_wp2
  go_loopw [9, 11, 12] (fun cur f ad wr => ∃ (k : Nat) (a : Option Addr) (ds : List Pr), ad = .int .i64 k ∧ cur = .slice a (ns.length + k) ds.length ∧ f = .bool fl ∧ k ≤ cs.length ∧ ns.length + k ≤ 20 ∧ Lp w wr ns cs r a k ds) (fun _ _ ad _ => cs.length - (intOf ad).toNat)
  case atStart => exact ⟨0, a, _, rfl, by rw [hlen]; rfl, rfl, Nat.zero_le _, by omega, hlp⟩
  case round =>
    clear hlp hlen
    obtain ⟨k, a, ds, rfl, rfl, rfl, hk, h20, hlp⟩ := hrel
    have hle := hlp.sl.le
    by_cases hgo : k < cs.length ∧ ns.length + k < 20
    · obtain ⟨hk1, h201⟩ := hgo
      obtain ⟨b, off, ha, hrr⟩ := Ps.at h2 (by omega)
      subst ha
      have hbs : b < w.heap.size := World.block_lt_of_cell? w _ (five (hrr k hk1)).1
      obtain ⟨c0, c1, c2, c3, c4⟩ := five (rangeAt_below hlp.bl hbs (hrr k hk1))
      go_wp2_with fail
      refine (contact _ _ _ _ _ _).mono ?_
      rintro e wx ⟨rfl, hbx⟩
      clear c0 c1 c2 c3 c4
      have hsl := hlp.sl.below hbx
      have hbw := hlp.bl.size
      go_wp2_with fail
      refine (zadd_any w.heap.size _ (ns.length + k) ds fl cs[k] wx (Nat.le_trans hlp.bl.size hbx.size) hsl h201).mono ?_
      rintro e wy ⟨v', ds', rfl, hs', ht', hg', hb'⟩
      obtain ⟨a', rfl⟩ := hs'.shape
      have hgl := grow_le h201 hle
      rw [← hg'] at hgl
      obtain ⟨hg1, hg2⟩ := hgl
      have hlp' := hlp.step hk1 h201 hs' ht' hg' ((hbx.mono hbw).trans hb')
      clear hg' ht' hs' hsl hb' hlp hbx
      go_wp2_with (go_at_call 11; refine (zzMax_any _ _ _).mono ?_; rintro e wz ⟨rfl, hz⟩; have hz := hz.symm; subst hz)
      go_roundw
      case rel => exact ⟨k + 1, a', ds', by go_num, rfl, rfl, by omega, by omega, hlp'⟩
      case measure => simp [intOf]; omega
    · obtain ⟨N, hN, hN1, hN2⟩ : ∃ N : Nat, N = ns.length + k ∧ N ≤ ns.length + k ∧ ns.length + k ≤ N := ⟨_, rfl, Nat.le_refl _, Nat.le_refl _⟩
      rw [← hN]
      have HN : Hid (N = ns.length + k) := hN
      clear hN hle
      have hcase : (¬ k < cs.length ∧ (cs.length : Int) < 20 - (ns.length : Int)) ∨ (¬ k < cs.length ∧ ¬ (cs.length : Int) < 20 - (ns.length : Int)) ∨ (k < cs.length ∧ ¬ N < 20 ∧ ¬ (cs.length : Int) < 20 - (ns.length : Int)) := by omega
      clear hgo
      rcases hcase with ⟨q1, q2⟩ | ⟨q1, q2⟩ | ⟨q1, q2, q3⟩
      all_goals
        go_wp2
        go_loopw [118] (fun i wr => ∃ j : Nat, i = .int .i64 j ∧ j ≤ ns.length ∧ Lp w wr ns cs r a k ds) (fun i _ => ns.length - (intOf i).toNat)
        case atStart => exact ⟨0, rfl, Nat.zero_le _, hlp⟩
        case round =>
          clear hlp
          obtain ⟨j, rfl, hj, hlp⟩ := hrel
          by_cases hj1 : j < ns.length
          · obtain ⟨b, off, ha, hrr⟩ := Ps.at h1 (by omega)
            subst ha
            have hbs : b < w.heap.size := World.block_lt_of_cell? w _ (five (hrr j hj1)).1
            obtain ⟨c0, c1, c2, c3, c4⟩ := five (rangeAt_below hlp.bl hbs (hrr j hj1))
            obtain ⟨g, ha, hg1, hg2, hrg⟩ := hlp.at j ns[j] (by omega) (by rw [List.getElem?_append_left hj1, List.getElem?_eq_getElem hj1])
            subst ha
            obtain ⟨d0, d1, d2, d3, d4⟩ := five hrg
            have hbs' := Nat.lt_of_lt_of_le hbs hlp.bl.size
            have hj2 : (j : Int) < (N : Int) := by omega
            have hj3 : j < N := by omega
            have heq := fun (a b c a' b' c' : Int) => eq30 9996 a b c a' b' c'
            go_wp2
            go_region_with (go_at_call 10; refine (contact _ _ _ _ _ _).mono ?_; rintro e wx ⟨rfl, hbx⟩; have hcx := bcell hbx; simp only [World.size_drew] at hcx)
            all_goals
              go_wp2
              go_roundw
              case rel => exact ⟨j + 1, by go_num, by omega, hlp.below (w' := wx) (Below.trans ((Below.refl _ _).drew) hbx)⟩
              case measure => simp [intOf]; omega
          · go_wp2
            go_loopw [17] (fun i wr => ∃ j : Nat, i = .int .i64 j ∧ j ≤ k ∧ Lp w wr ns cs r a k ds) (fun i _ => k - (intOf i).toNat)
            case atStart => exact ⟨0, rfl, Nat.zero_le _, hlp⟩
            case round =>
              clear hlp hj hj1
              obtain ⟨j, rfl, hj, hlp⟩ := hrel
              by_cases hj1 : j < k
              · have hjc : j < cs.length := by omega
                obtain ⟨b, off, ha, hrr⟩ := Ps.at h2 (by omega)
                subst ha
                have hbs : b < w.heap.size := World.block_lt_of_cell? w _ (five (hrr j hjc)).1
                obtain ⟨c0, c1, c2, c3, c4⟩ := five (rangeAt_below hlp.bl hbs (hrr j hjc))
                obtain ⟨g, ha, hg1, hg2, hrg⟩ := hlp.at (ns.length + j) cs[j] (by omega) (by rw [List.getElem?_append_right (by omega), Nat.add_sub_cancel_left, List.getElem?_take, if_pos hj1, List.getElem?_eq_getElem hjc])
                subst ha
                obtain ⟨d0, d1, d2, d3, d4⟩ := five hrg
                have hbs' := Nat.lt_of_lt_of_le hbs hlp.bl.size
                have hj2 : (ns.length : Int) + (j : Int) < (N : Int) := by omega
                have hj3 : ((ns.length : Int) + (j : Int)).toNat = ns.length + j := by omega
                have hwr : IntKind.i64.wrap ((ns.length : Int) + (j : Int)) = (ns.length : Int) + (j : Int) := by rw [IntKind.wrap_i64]; omega
                have hj4 : (0 : Int) ≤ (ns.length : Int) + (j : Int) := by omega
                have heq := fun (a b c a' b' c' : Int) => eq30 9996 a b c a' b' c'
                go_wp2
                go_region_with (go_at_call 10; refine (contact _ _ _ _ _ _).mono ?_; rintro e wx ⟨rfl, hbx⟩; have hcx := bcell hbx; simp only [World.size_drew] at hcx)
                all_goals
                  go_wp2
                  go_roundw
                  case rel => exact ⟨j + 1, by go_num, by omega, hlp.below (w' := wx) (Below.trans ((Below.refl _ _).drew) hbx)⟩
                  case measure => simp [intOf]; omega
              · have hcp := hlp.cp
                have hnl := hlp.sl.le
                unfold capInv at hcp
                cases h20 : ((N : Int) == 20)
                · go_wp2
                  all_goals (go_ret; exact ⟨rfl, hlp.bl⟩)
                · have hcap : ((ds.length : Int) == max ((ns.length : Int) + (r : Int)) 20) = true := by
                    simp only [beq_iff_eq] at h20 ⊢
                    omega
                  clear hcp hnl
                  go_wp2_with (go_at_call 11; refine (zzMax_any _ _ _).mono ?_; rintro e wz ⟨rfl, hz⟩; have hz := hz.symm; subst hz)
                  all_goals (go_ret; exact ⟨rfl, hlp.bl⟩)
end Go.Proofs.Qxb6619336a
