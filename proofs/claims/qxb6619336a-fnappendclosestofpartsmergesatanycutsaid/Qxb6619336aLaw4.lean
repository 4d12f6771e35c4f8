import Derived.Test.Qxb6619336aSmall
import Derived.Test.Qxb6619336aBytes12
import Derived.Test.Qxb6619336aEq
namespace Go.Proofs.Qxb6619336a
open Go.RowKit
attribute [local go_sem ↓] Go.wp_at_zero Go.wp_at_succ

theorem apart_of {ta tb tc : Int} (ht : Tok ta tb tc) {ps : List Pr} (hok : ∀ q ∈ ps, q.ok) (hd : DifTo ps ps.length) : Top.Apart (dist ta tb tc) ps := by
  intro i j hi hj e
  exact hd i j hi hj (by omega) (dist_inj ht (hok _ (List.getElem_mem _)) (hok _ (List.getElem_mem _)) e)
theorem wanted_nat (n : Int) (s c M : Nat) (w : World) (hM : M = min (n - s).toNat c) (hn1 : -9223372036854775808 ≤ n) (hn2 : n ≤ 9223372036854775807) (hs2 : s ≤ 100000) (hc2 : c ≤ 100000) :
    Calls Try.prog 14 #[.int .i64 n, .int .i64 s, .int .i64 c] w fun e w' => e = .returned (.int .i64 M) ∧ w' = w :=
  (wanted_any n s c w hn1 hn2 (by omega) (by omega) (by omega) (by omega)).mono fun e w' ⟨h1, h2⟩ => ⟨h1.trans (ret_int (by omega)), h2⟩
theorem closer_at (p q : Pr) (ta tb tc : Int) (w : World) (bb : Bool) (hbb : decide (dist ta tb tc p < dist ta tb tc q) = bb) (ht : Tok ta tb tc) (hp : p.ok) (hq : q.ok) :
    Calls Try.prog 17 #[.agg #[.int .u64 p.a, .int .u64 p.b, .int .u64 p.c, .string p.nm, .string p.ad], .agg #[.int .u64 q.a, .int .u64 q.b, .int .u64 q.c, .string q.nm, .string q.ad], .int .u64 ta, .int .u64 tb, .int .u64 tc] w fun e w' =>
      e = .returned (.bool bb) ∧ Below w.heap.size w w' := by
  subst hbb; exact closer_any p q ta tb tc w ht hp hq
/-- what zzContacts hands back, as appendClosest wants it -/
theorem made_At {w w' : World} {v : Value} {ps : List Pr} {r : Nat} (h : Made w w' v ps r) : ∃ a ds, v = .slice a ps.length ds.length ∧ At w' a ps.length ds ∧ ds.take ps.length = ps ∧ (∀ b o, a = some ⟨b, o, none⟩ → b = w.heap.size ∧ b < w'.heap.size) ∧ Ps w' a ps := by
  rcases h with ⟨rfl, rfl, rfl⟩ | ⟨rfl, hr⟩
  · exact ⟨none, [], rfl, .inl ⟨rfl, rfl, rfl⟩, rfl, (fun b o h => by cases h), .inl rfl⟩
  · refine ⟨_, ps ++ List.replicate r Pr.zero, by simp, .inr ⟨_, rfl, hr, by simp⟩, by simp, (fun b o h => ?_), .inr ⟨_, 0, rfl, hr.lt, fun i p hp => ?_⟩⟩
    · injection h with h; injection h with h
      exact ⟨h.symm, h ▸ hr.lt⟩
    · obtain ⟨hlt, e⟩ := List.getElem?_eq_some_iff.1 hp
      have := hr.range i (by simp; omega)
      rw [List.getElem_append_left hlt, e] at this
      simpa using this
/-- the slice got, read after the call -/
structure Gt (w0 w : World) (a : Option Addr) (N : Nat) (ds cl L : List Pr) : Prop where
  at_ : At w a N ds
  tk : ds.take N = cl ++ L
  bl : Below w0.heap.size w0 w
theorem Gt.below {w0 w w' : World} {a : Option Addr} {N : Nat} {ds cl L : List Pr} (h : Gt w0 w a N ds cl L) (hb : Below w.heap.size w w') : Gt w0 w' a N ds cl L :=
  ⟨h.at_.of hb, h.tk, h.bl.trans (hb.mono h.bl.size)⟩
theorem Gt.at {w0 w : World} {a : Option Addr} {N : Nat} {ds cl L : List Pr} (h : Gt w0 w a N ds cl L) (j : Nat) (q : Pr) (hj : j < N) (hq : (cl ++ L)[j]? = some q) :
    ∃ g, a = some ⟨g, 0, none⟩ ∧ g < w.heap.size ∧ w.rangeAt g (j * 5) q.cells := by
  rcases h.at_ with ⟨_, h0, _⟩ | ⟨g, hv, hr, hn⟩
  · omega
  · refine ⟨g, hv, hr.lt, ?_⟩
    have e : ds[j]? = some q := by
      rw [← hq, ← h.tk, List.getElem?_take, if_pos hj]
    obtain ⟨hlt, e'⟩ := List.getElem?_eq_some_iff.1 e
    have := hr.range j hlt
    rwa [e'] at this
theorem rank_step (key : Pr → Nat) (q : Pr) (ns : List Pr) (k : Nat) (hk : k < ns.length) : Top.rank key q (ns.take (k + 1)) = Top.rank key q (ns.take k) + (if decide (key ns[k] < key q) = true then 1 else 0) := by
  unfold Top.rank
  rw [List.take_succ_eq_append_getElem hk, List.countP_append, List.countP_singleton]

set_option maxHeartbeats 8000000 in
set_option maxRecDepth 1000000 in
theorem law4_core (a1 a2 : Option Addr) (c1 c2 : Nat) (cl ns : List Pr) (r : Nat) (ta tb tc n : Int) (w : World) (h1 : Ps w a1 cl) (h2 : Ps w a2 ns) (l1 : cl.length ≤ 4096) (l2 : ns.length ≤ 4096) (hr : r ≤ 4096)
    (ht : Tok ta tb tc) (hok : ∀ q ∈ ns, q.ok) (hn1 : -9223372036854775808 ≤ n) (hn2 : n ≤ 9223372036854775807) :
    Calls Try.prog 4 #[.slice a1 cl.length c1, .int .i64 r, .slice a2 ns.length c2, .int .u64 ta, .int .u64 tb, .int .u64 tc, .int .i64 n] w fun e w' => e = .returned (.bool true) ∧ Below w.heap.size w w' := by
  have m1 : cl.length ≤ maxLen := by unfold maxLen; omega
  have m2 : ns.length ≤ maxLen := by unfold maxLen; omega
  go_enter Try.func4, Try.ntmps4
  go_wp2_with fail
  refine (bytes12 _ _ _ _ _ _ _ _ _ _ _ _ h1 m1 h2 m2).mono ?_
  rintro e wx ⟨⟨bo, rfl⟩, hw⟩
  have hw := hw.symm
  subst hw
  cases bo
  · go_wp2
    go_ret
    exact ⟨rfl, Below.refl _ _⟩
  clear m1 m2
  go_wp2_with fail
  refine (zzBytes_any 0 a1 c1 cl w (by omega) (by omega) (by omega) h1).mono ?_
  rintro e wx ⟨⟨s1, rfl, p1, p2⟩, hw⟩
  have hw := hw.symm
  subst hw
  go_wp2_with fail
  refine (zzBytes_any s1 a2 c2 ns w p1 p2 (by omega) h2).mono ?_
  rintro e wx ⟨⟨s2, rfl, p3, p4⟩, hw⟩
  have hw := hw.symm
  subst hw
  by_cases hs2 : 1048576 < s2
  · go_wp2
    go_ret
    exact ⟨rfl, Below.refl _ _⟩
  go_wp2_with fail
  refine (distinct_any a2 c2 ns w h2 (by omega)).mono ?_
  rintro e w1 ⟨bd, rfl, hdis, hb1⟩
  cases bd
  · go_wp2
    go_ret
    exact ⟨rfl, hb1⟩
  have hap := apart_of ht hok (hdis rfl)
  clear hdis
  obtain ⟨M, hM⟩ : ∃ M : Nat, M = min (n - (cl.length : Int)).toNat ns.length := ⟨_, rfl⟩
  have HM : Hid (M = min (n - (cl.length : Int)).toNat ns.length) := hM
  have hM2 : M ≤ 4096 := by omega
  clear hM
  go_wp2_with fail
  refine (wanted_nat n cl.length ns.length M w1 HM.out hn1 hn2 (by omega) (by omega)).mono ?_
  rintro e wx ⟨rfl, hw⟩
  have hw := hw.symm
  subst hw
  go_wp2_with fail
  refine (contacts_any a1 c1 cl r w1 (h1.below hb1) (by omega) (by omega)).mono ?_
  rintro e w2 ⟨v, rfl, hm0, hb2⟩
  obtain ⟨a0, ds0, rfl, hA0, ht0, hg0, _⟩ := made_At hm0
  clear hm0
  go_wp2_with fail
  refine (contacts_any a2 c2 ns 0 w2 ((h2.below hb1).below hb2) (by omega) (by omega)).mono ?_
  rintro e w3 ⟨v, rfl, hm0, hb3⟩
  obtain ⟨a3, ds3, rfl, _, _, hg3, hP3⟩ := made_At hm0
  clear hm0
  go_wp2_with fail
  refine (makeID ta tb tc w3).mono ?_
  rintro e w4 ⟨rfl, hw4⟩
  have hb4 : Below w3.heap.size w3 w4 := by rw [hw4]; exact (Below.refl _ _).alloc (Nat.le_refl _) _
  clear hw4
  have hB1 := hb1.size
  have hB2 := hb2.size
  have hB3 := hb3.size
  have hB4 := hb4.size
  have hc := zappend_any w.heap.size a0 cl ds0 a3 ds3.length ns ta tb tc n w4 (by omega) ((hA0.of hb3).of hb4) ht0 (fun g hg => by have := (hg0 g 0 hg).1; omega) (hP3.below hb4)
    (fun g b off hg hb _ => by have := hg0 g 0 hg; have := hg3 b off hb; omega) ht hok (by omega) (by omega) hn1 hn2
  have hbw4 : Below w.heap.size w w4 := hb1.trans ((hb2.mono hB1).trans ((hb3.mono (by omega)).trans (hb4.mono (by omega))))
  clear hA0 ht0 hg0 hP3 hg3 hb1 hb2 hb3 hb4 hB1 hB2 hB3 hB4
  go_wp2_with fail
  refine hc.mono ?_
  rintro e w5 ⟨a, ds, L, N, hL, hN, rfl, hat, htk, hbase, hb5⟩
  have hgt : Gt w w5 a N ds cl L := ⟨hat, htk, hbw4.trans hb5⟩
  have hLl : L.length = M := by rw [hL, Top.top_length, HM.out]
  rw [hLl] at hN
  have hNb : ((N : Int) == (cl.length : Int) + (M : Int)) = true := by simp; omega
  have HL : Hid _ := hL
  have HLl : Hid (L.length = M) := hLl
  have hN1 : N ≤ cl.length + M := by omega
  have hN2 : cl.length + M ≤ N := by omega
  clear hc hat htk hbase hb5 hbw4 hN hL hLl
  go_wp2
  have hNe : ((N : Int) != (cl.length : Int) + (M : Int)) = false := by simp; omega
  rw [hNe]
  clear hNb hNe
  go_loopw [18] (fun i wr => ∃ j : Nat, i = .int .i64 j ∧ j ≤ cl.length ∧ Gt w wr a N ds cl L) (fun i _ => cl.length - (intOf i).toNat)
  case atStart => exact ⟨0, rfl, Nat.zero_le _, hgt⟩
  case round =>
    clear hgt
    obtain ⟨j, rfl, hj, hgt⟩ := hrel
    by_cases hj1 : j < cl.length
    · obtain ⟨b, off, ha, hrr⟩ := Ps.at h1 (by omega)
      subst ha
      have hbs : b < w.heap.size := World.block_lt_of_cell? w _ (five (hrr j hj1)).1
      obtain ⟨c0, c1, c2, c3, c4⟩ := five (rangeAt_below hgt.bl hbs (hrr j hj1))
      obtain ⟨g, ha, hg2, hrg⟩ := hgt.at j cl[j] (by omega) (by rw [List.getElem?_append_left hj1, List.getElem?_eq_getElem hj1])
      subst ha
      obtain ⟨d0, d1, d2, d3, d4⟩ := five hrg
      have hbs' := Nat.lt_of_lt_of_le hbs hgt.bl.size
      have hj2 : (j : Int) < (N : Int) := by omega
      have hj3 : j < N := by omega
      have heq := fun (a b c a' b' c' : Int) => eq30 9996 a b c a' b' c'
      go_wp2
      go_region_with (go_at_call 10; refine (contact _ _ _ _ _ _).mono ?_; rintro e wx ⟨rfl, hbx⟩; have hcx := bcell hbx; simp only [World.size_drew] at hcx)
      all_goals
        go_wp2
        go_roundw
        case rel => exact ⟨j + 1, by go_num, by omega, hgt.below (w' := wx) (Below.trans ((Below.refl _ _).drew) hbx)⟩
        case measure => simp [intOf]; omega
    · go_wp2
      clear hj hj1
      go_loopw [94] (fun i wr => ∃ j : Nat, i = .int .i64 j ∧ j ≤ ns.length ∧ Gt w wr a N ds cl L) (fun i _ => ns.length - (intOf i).toNat)
      case atStart => exact ⟨0, rfl, Nat.zero_le _, hgt⟩
      case round =>
        clear hgt
        obtain ⟨j, rfl, hj, hgt⟩ := hrel
        by_cases hj1 : j < ns.length
        · obtain ⟨b, off, ha, hrr⟩ := Ps.at h2 (by omega)
          subst ha
          have hbs : b < w.heap.size := World.block_lt_of_cell? w _ (five (hrr j hj1)).1
          have hokj : ns[j].ok := hok _ (List.getElem_mem hj1)
          go_wp2
          go_loopw [20, 99] (fun rk i wr => ∃ k R : Nat, i = .int .i64 k ∧ k ≤ ns.length ∧ rk = .int .i64 R ∧ R = Top.rank (dist ta tb tc) ns[j] (ns.take k) ∧ R ≤ k ∧ Gt w wr a N ds cl L) (fun _ i _ => ns.length - (intOf i).toNat)
          case atStart => exact ⟨0, 0, rfl, Nat.zero_le _, rfl, by simp [Top.rank], Nat.zero_le _, hgt⟩
          case round =>
            clear hgt
            obtain ⟨k, R, rfl, hk, rfl, hR, hRk, hgt⟩ := hrel
            have HR : Hid _ := hR
            clear hR
            obtain ⟨d0, d1, d2, d3, d4⟩ := five (rangeAt_below hgt.bl hbs (hrr j hj1))
            by_cases hk1 : k < ns.length
            · obtain ⟨c0, c1, c2, c3, c4⟩ := five (rangeAt_below hgt.bl hbs (hrr k hk1))
              have hokk : ns[k].ok := hok _ (List.getElem_mem hk1)
              have hst := rank_step (dist ta tb tc) ns[j] ns k hk1
              have Hst : Hid _ := hst
              clear hst
              cases hbb : decide (dist ta tb tc ns[k] < dist ta tb tc ns[j])
              · go_wp2
                go_region_with (go_at_call 17; refine (closer_at ns[k] ns[j] ta tb tc _ false hbb ht hokk hokj).mono ?_; rintro e wx ⟨rfl, hbx⟩)
                all_goals
                  go_wp2
                  go_roundw
                  case rel => exact ⟨k + 1, R, by go_num, by omega, rfl, by rw [Hst.out, hbb, ← HR.out]; simp, by omega, hgt.below (w' := wx) (Below.trans ((Below.refl _ _).drew) hbx)⟩
                  case measure => simp [intOf]; omega
              · go_wp2
                go_region_with (go_at_call 17; refine (closer_at ns[k] ns[j] ta tb tc _ true hbb ht hokk hokj).mono ?_; rintro e wx ⟨rfl, hbx⟩)
                all_goals
                  go_wp2
                  go_roundw
                  case rel => exact ⟨k + 1, R + 1, by go_num, by omega, by go_num, by rw [Hst.out, hbb, ← HR.out]; simp, by omega, hgt.below (w' := wx) (Below.trans ((Below.refl _ _).drew) hbx)⟩
                  case measure => simp [intOf]; omega
            · have hRr : R = Top.rank (dist ta tb tc) ns[j] ns := by
                rw [HR.out, List.take_of_length_le (by omega)]
              by_cases hRM : R < M
              · have hLR : L[R]? = some ns[j] := by
                  rw [HL.out, hRr]
                  exact Top.top_rank _ hap (List.getElem_mem hj1) _ (by rw [← hRr]; have := HM.out; omega)
                obtain ⟨g, ha, hg2, hrg⟩ := hgt.at (cl.length + R) ns[j] (by omega) (by rw [List.getElem?_append_right (by omega), Nat.add_sub_cancel_left]; exact hLR)
                subst ha
                clear hLR hRr
                obtain ⟨c0, c1, c2, c3, c4⟩ := five hrg
                have hbs' := Nat.lt_of_lt_of_le hbs hgt.bl.size
                have hj2 : (cl.length : Int) + (R : Int) < (N : Int) := by omega
                have hj3 : ((cl.length : Int) + (R : Int)).toNat = cl.length + R := by omega
                have hwr : IntKind.i64.wrap ((cl.length : Int) + (R : Int)) = (cl.length : Int) + (R : Int) := by rw [IntKind.wrap_i64]; omega
                have hj4 : (0 : Int) ≤ (cl.length : Int) + (R : Int) := by omega
                have heq := fun (a b c a' b' c' : Int) => eq30 9996 a b c a' b' c'
                go_wp2
                go_region_held3 (fun w' => w'.cell? ⟨b, off + j * 5, none⟩ = some (.int .u64 ns[j].a) ∧ w'.cell? ⟨b, off + j * 5 + 1, none⟩ = some (.int .u64 ns[j].b) ∧ w'.cell? ⟨b, off + j * 5 + 2, none⟩ = some (.int .u64 ns[j].c) ∧
                    w'.cell? ⟨b, off + j * 5 + 3, none⟩ = some (.string ns[j].nm) ∧ w'.cell? ⟨b, off + j * 5 + 4, none⟩ = some (.string ns[j].ad) ∧
                    w'.cell? ⟨g, (cl.length + R) * 5, none⟩ = some (.int .u64 ns[j].a) ∧ w'.cell? ⟨g, (cl.length + R) * 5 + 1, none⟩ = some (.int .u64 ns[j].b) ∧ w'.cell? ⟨g, (cl.length + R) * 5 + 2, none⟩ = some (.int .u64 ns[j].c) ∧
                    w'.cell? ⟨g, (cl.length + R) * 5 + 3, none⟩ = some (.string ns[j].nm) ∧ w'.cell? ⟨g, (cl.length + R) * 5 + 4, none⟩ = some (.string ns[j].ad)) (go_keep)
                  ((go_at_call 10; refine (contact _ _ _ _ _ _).mono ?_; rintro e wx ⟨rfl, hbx⟩; have hcx := bcell hbx; simp only [World.size_drew] at hcx))
                rename_i hHeld
                clear hHeld
                all_goals
                  go_wp2
                  go_roundw
                  case rel => exact ⟨j + 1, by go_num, by omega, hgt.below (w' := wx) (Below.trans ((Below.refl _ _).drew) hbx)⟩
                  case measure => simp [intOf]; omega
              · clear hRr
                go_wp2
                go_quiet (fail)
                all_goals
                  go_wp2
                  go_roundw
                  case rel => exact ⟨j + 1, by go_num, by omega, hgt.below (Below.drewN' (Below.refl _ _) _)⟩
                  case measure => simp [intOf]; omega
        · go_wp2
          go_ret
          exact ⟨rfl, hgt.bl⟩
end Go.Proofs.Qxb6619336a
