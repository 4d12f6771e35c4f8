import Derived.Test.Qxb6619336aPab
import Derived.Deep.CutRange
namespace Go.Proofs.Qxb6619336a
open Go.RowKit
attribute [local go_sem ↓] Go.wp_at_zero Go.wp_at_succ

/-- both answers and the joined peers, while the law compares -/
structure Fn5 (w0 w : World) (aw am : Option Addr) (N : Nat) (dw dm cl L Z : List Pr) : Prop where
  gw : Gt w0 w aw N dw cl L
  gm : Gt w0 w am N dm cl L
  rz : RowP w w0.heap.size Z
theorem Fn5.below {w0 w w' : World} {aw am : Option Addr} {N : Nat} {dw dm cl L Z : List Pr} (h : Fn5 w0 w aw am N dw dm cl L Z) (hb : Below w.heap.size w w') : Fn5 w0 w' aw am N dw dm cl L Z :=
  ⟨h.gw.below hb, h.gm.below hb, h.rz.of (hb.block _ h.rz.lt)⟩

/-- of the first k of Z none is nearer than Z[b] -/
def Best (ta tb tc : Int) (Z : List Pr) (b k : Nat) : Prop := ∀ p q, Z[b]? = some q → p ∈ Z.take k → dist ta tb tc q ≤ dist ta tb tc p
theorem Best.one (ta tb tc : Int) (Z : List Pr) (h : 0 < Z.length) : Best ta tb tc Z 0 1 := by
  intro p q hq hp
  rw [List.take_succ_eq_append_getElem h] at hp
  rw [List.getElem?_eq_getElem h] at hq
  injection hq with hq
  simp at hp
  rw [hp, hq]; exact Nat.le_refl _
theorem Best.keep {ta tb tc : Int} {Z : List Pr} {b k : Nat} (h : Best ta tb tc Z b k) (hb : b < Z.length) (hk : k < Z.length) (hbb : decide (dist ta tb tc Z[k] < dist ta tb tc Z[b]) = false) : Best ta tb tc Z b (k + 1) := by
  intro p q hq hp
  rw [List.take_succ_eq_append_getElem hk] at hp
  rcases List.mem_append.1 hp with h1 | h1
  · exact h p q hq h1
  · rw [List.getElem?_eq_getElem hb] at hq
    injection hq with hq
    simp at h1
    have := of_decide_eq_false hbb
    rw [h1, ← hq]; omega
theorem Best.turn {ta tb tc : Int} {Z : List Pr} {b k : Nat} (h : Best ta tb tc Z b k) (hb : b < Z.length) (hk : k < Z.length) (hbb : decide (dist ta tb tc Z[k] < dist ta tb tc Z[b]) = true) : Best ta tb tc Z k (k + 1) := by
  intro p q hq hp
  rw [List.getElem?_eq_getElem hk] at hq
  injection hq with hq
  rw [List.take_succ_eq_append_getElem hk] at hp
  rcases List.mem_append.1 hp with h1 | h1
  · have h2 := h p Z[b] (List.getElem?_eq_getElem hb) h1
    have := of_decide_eq_true hbb
    rw [← hq]; omega
  · simp at h1
    rw [h1, hq]; exact Nat.le_refl _
theorem Best.rank {ta tb tc : Int} {Z : List Pr} {b k : Nat} (h : Best ta tb tc Z b k) (hb : b < Z.length) (hk : Z.length ≤ k) : Top.rank (dist ta tb tc) Z[b] Z = 0 :=
  Top.rank_zero _ fun p hp => h p Z[b] (List.getElem?_eq_getElem hb) (by rw [List.take_of_length_le hk]; exact hp)

set_option maxHeartbeats 8000000 in
set_option maxRecDepth 1000000 in
theorem law5_core (a1 a2 a3 : Option Addr) (c1 c2 c3 : Nat) (cl xs ys : List Pr) (ta tb tc n : Int) (w : World) (h1 : Ps w a1 cl) (h2 : Ps w a2 xs) (h3 : Ps w a3 ys)
    (l1 : cl.length ≤ 4096) (l2 : xs.length ≤ 4096) (l3 : ys.length ≤ 4096)
    (ht : Tok ta tb tc) (hokx : ∀ q ∈ xs, q.ok) (hoky : ∀ q ∈ ys, q.ok) (hn1 : -9223372036854775808 ≤ n) (hn2 : n ≤ 9223372036854775807) :
    Calls Try.prog 5 #[.slice a1 cl.length c1, .slice a2 xs.length c2, .slice a3 ys.length c3, .int .u64 ta, .int .u64 tb, .int .u64 tc, .int .i64 n] w fun e w' => e = .returned (.bool true) ∧ Below w.heap.size w w' := by
  have m1 : cl.length ≤ maxLen := by unfold maxLen; omega
  have m2 : xs.length ≤ maxLen := by unfold maxLen; omega
  have m3 : ys.length ≤ maxLen := by unfold maxLen; omega
  obtain ⟨Z, hZ⟩ : ∃ Z, Z = xs ++ ys := ⟨_, rfl⟩
  have HZ : Hid (Z = xs ++ ys) := hZ
  have hZl : Z.length = xs.length + ys.length := by rw [hZ]; simp
  have hZ1 : Z.length ≤ xs.length + ys.length := by omega
  have hZ2 : xs.length + ys.length ≤ Z.length := by omega
  have hmk := run_mkP xs.length ys.length Z.length hZl (by omega)
  have hok : ∀ q ∈ Z, q.ok := fun q hq => by
    rw [hZ] at hq
    rcases List.mem_append.1 hq with h | h
    · exact hokx q h
    · exact hoky q h
  have HZl : Hid _ := hZl
  clear hZl hZ
  go_enter Try.func5, Try.ntmps5
  go_wp2_with fail
  refine (bytes18 _ _ _ _ _ _ _ _ _ _ _ _ _ _ h1 m1 h2 m2 h3 m3).mono ?_
  rintro e wx ⟨⟨bo, rfl⟩, hw⟩
  have hw := hw.symm
  subst hw
  cases bo
  · go_wp2
    go_ret
    exact ⟨rfl, Below.refl _ _⟩
  clear m1 m2 m3
  go_wp2_with fail
  refine (zzBytes_any 0 a1 c1 cl w (by omega) (by omega) (by omega) h1).mono ?_
  rintro e wx ⟨⟨s1, rfl, p1, p2⟩, hw⟩
  have hw := hw.symm
  subst hw
  go_wp2_with fail
  refine (zzBytes_any s1 a2 c2 xs w p1 p2 (by omega) h2).mono ?_
  rintro e wx ⟨⟨s2, rfl, p3, p4⟩, hw⟩
  have hw := hw.symm
  subst hw
  go_wp2_with fail
  refine (zzBytes_any s2 a3 c3 ys w p3 p4 (by omega) h3).mono ?_
  rintro e wx ⟨⟨s3, rfl, p5, p6⟩, hw⟩
  have hw := hw.symm
  subst hw
  by_cases hs3 : 1048576 < s3
  · go_wp2
    go_ret
    exact ⟨rfl, Below.refl _ _⟩
  go_wp2
  clear hmk
  go_loopw [15, 68] (fun ab i wr => ∃ k : Nat, i = .int .i64 k ∧ k ≤ xs.length ∧ ab = .slice (some ⟨w.heap.size, 0, none⟩) k Z.length ∧ RowP wr w.heap.size (laidTo Z 0 k) ∧ Below w.heap.size w wr) (fun _ i _ => xs.length - (intOf i).toNat)
  case atStart => exact ⟨0, rfl, Nat.zero_le _, rfl, by rw [laidTo_zero]; exact RowP.made w _, (Below.refl _ _).alloc (Nat.le_refl _) _⟩
  case round =>
    obtain ⟨k, rfl, hk, rfl, hrow, hbl⟩ := hrel
    by_cases hlt : k < xs.length
    · obtain ⟨b, off, ha, hrr⟩ := Ps.at h2 (by omega)
      subst ha
      have hbs : b < w.heap.size := World.block_lt_of_cell? w _ (five (hrr k hlt)).1
      obtain ⟨d0, d1, d2, d3, d4⟩ := five (rangeAt_below hbl hbs (hrr k hlt))
      have hkZ : k < Z.length := by omega
      have hZk : Z[k] = xs[k] := by
        have := HZ.out
        subst this
        rw [List.getElem_append_left hlt]
      have hsz := hbl.size
      go_wp2_with (at_builtin; refine wpList_appendP rfl (.tmp 71) (.tmp 76) rfl w.heap.size k Z xs[k] ⟨wr.heap.size, 0, none⟩ 1 (by rfl) (by rfl) (hrow.alloc _) hkZ hZk (newsP wr xs[k] 37) ?h)
      intro w1 hr1 hF1 hs1
      go_wp2
      go_roundw
      case rel => exact ⟨k + 1, by go_num, by omega, rfl, hr1, (hbl.alloc hsz _).trans (hF1.below_of (Nat.le_refl _) (by first | omega | (simp; omega)))⟩
      case measure => simp [intOf]; omega
    · have hkx : k = xs.length := by omega
      subst hkx
      go_wp2
      go_loopw [15, 81] (fun ab i wr => ∃ k P : Nat, i = .int .i64 k ∧ k ≤ ys.length ∧ P ≤ xs.length + k ∧ xs.length + k ≤ P ∧ ab = .slice (some ⟨w.heap.size, 0, none⟩) P Z.length ∧ RowP wr w.heap.size (laidTo Z 0 P) ∧ Below w.heap.size w wr) (fun _ i _ => ys.length - (intOf i).toNat)
      case atStart => exact ⟨0, xs.length, rfl, Nat.zero_le _, by omega, by omega, rfl, hrow, hbl⟩
      case round =>
        clear hrow hbl
        obtain ⟨k, P, rfl, hk, hP1, hP2, rfl, hrow, hbl⟩ := hrel
        by_cases hlt : k < ys.length
        · obtain ⟨b, off, ha, hrr⟩ := Ps.at h3 (by omega)
          subst ha
          have hbs : b < w.heap.size := World.block_lt_of_cell? w _ (five (hrr k hlt)).1
          obtain ⟨d0, d1, d2, d3, d4⟩ := five (rangeAt_below hbl hbs (hrr k hlt))
          have hPZ : P < Z.length := by omega
          have hZk : Z[P] = ys[k] := by
            have := HZ.out
            subst this
            rw [List.getElem_append_right (by omega)]
            congr 1
            omega
          have hsz := hbl.size
          go_wp2_with (at_builtin; refine wpList_appendP rfl (.tmp 84) (.tmp 89) rfl w.heap.size P Z ys[k] ⟨wr.heap.size, 0, none⟩ 1 (by rfl) (by rfl) (hrow.alloc _) hPZ hZk (newsP wr ys[k] 37) ?h)
          intro w1 hr1 hF1 hs1
          go_wp2
          go_roundw
          case rel => exact ⟨k + 1, P + 1, by go_num, by omega, by omega, by omega, rfl, hr1, (hbl.alloc hsz _).trans (hF1.below_of (Nat.le_refl _) (by first | omega | (simp; omega)))⟩
          case measure => simp [intOf]; omega
        · obtain rfl : P = Z.length := by omega
          rw [laidTo_full] at hrow
          clear hP1 hP2
          go_wp2_with fail
          refine (distinct_any _ Z.length Z wr hrow.ps (by omega)).mono ?_
          rintro e w1 ⟨bd, rfl, hdis, hb1⟩
          have hbl1 := hbl.trans (hb1.mono hbl.size)
          have hrow1 := hrow.of (hb1.block _ hrow.lt)
          cases bd
          · go_wp2
            go_ret
            exact ⟨rfl, hbl1⟩
          have hap := apart_of ht hok (hdis rfl)
          clear hdis hrow hbl hb1 hk hlt
          obtain ⟨M, hM⟩ : ∃ M : Nat, M = min (n - (cl.length : Int)).toNat Z.length := ⟨_, rfl⟩
          have HM : Hid (M = min (n - (cl.length : Int)).toNat Z.length) := hM
          have hM2 : M ≤ 8192 := by omega
          clear hM
          go_wp2_with fail
          refine (wanted_nat n cl.length Z.length M w1 HM.out hn1 hn2 (by omega) (by omega)).mono ?_
          rintro e wx ⟨rfl, hw⟩
          have hw := hw.symm
          subst hw
          go_wp2_with fail
          refine (makeID ta tb tc w1).mono ?_
          rintro e w2 ⟨rfl, hw2⟩
          have hb2 : Below w1.heap.size w1 w2 := by rw [hw2]; exact (Below.refl _ _).alloc (Nat.le_refl _) _
          have hbl2 := hbl1.trans (hb2.mono hbl1.size)
          have hrow2 := hrow1.of (hb2.block _ hrow1.lt)
          clear hw2 hb2 hbl1 hrow1
          go_upto_region 23 with fail
          have hbq0 : Below w2.heap.size w2 (w2.alloc (.cells #[.int .u64 ta, .int .u64 tb, .int .u64 tc] 32)) := (Below.refl _ _).alloc (Nat.le_refl _) _
          have hbq := hbl2.trans (hbq0.mono hbl2.size)
          have hrowq := hrow2.of (hbq0.block _ hrow2.lt)
          have hTq : Tg (w2.alloc (.cells #[.int .u64 ta, .int .u64 tb, .int .u64 tc] 32)) w2.heap.size ta tb tc := ⟨by go_simp, by go_simp, by go_simp⟩
          clear hbq0 hbl2 hrow2
          generalize (w2.alloc (.cells #[.int .u64 ta, .int .u64 tb, .int .u64 tc] 32)) = wq at *
          generalize w2.heap.size = T at *
          obtain ⟨L, hL⟩ : ∃ L, L = Top.top (dist ta tb tc) (n - (cl.length : Int)).toNat Z := ⟨_, rfl⟩
          have HL : Hid (L = Top.top (dist ta tb tc) (n - (cl.length : Int)).toNat Z) := hL
          have hLl : L.length = M := by rw [HL.out, Top.top_length, HM.out]
          clear hL
          have hA := contacts_in wq wq.drew a1 c1 cl T ta tb tc (Below.refl _ _).drew (h1.below hbq) (by omega) hTq
          have hB := fun (wa : World) hb => contacts_in wq wa (some ⟨w.heap.size, 0, none⟩) Z.length Z T ta tb tc hb hrowq.ps (by omega) hTq
          have h15 := fun (wa wb : World) (a0 a9 : Option Addr) (ds0 ds9 : List Pr) (A : Cin wq wq.drew T ta tb tc cl a0 ds0 wa) (Bn : Cin wq wa T ta tb tc Z a9 ds9 wb) => zap_ab A Bn (Nat.le_refl _) n L HL.out ht hok (by omega) (by omega) hn1 hn2
          go_cut [21] from 106 to 112 (fun v wx => Ans wq cl L v wx)
          case first =>
            have t0 := hTq.c0
            have t1 := hTq.c1
            have t2 := hTq.c2
            go_region_with (first | (go_at_call 8; first | (refine (hB wa A.blq).mono ?_; rintro e wb ⟨a9, ds9, rfl, Bn⟩; have f0 := Bn.tg.c0; have f1 := Bn.tg.c1; have f2 := Bn.tg.c2) | (refine hA.mono ?_; rintro e wa ⟨a0, ds0, rfl, A⟩; have e0 := A.tg.c0; have e1 := A.tg.c1; have e2 := A.tg.c2)) | (go_at_call 15; refine (h15 wa wb a0 a9 ds0 ds9 A Bn).mono ?_; rintro e wz ⟨v, rfl, hv⟩))
            all_goals (go_wp2_with fail; go_meet; exact hv)
          case rest =>
          clear hA hB h15
          obtain ⟨w5, hw5⟩ : ∃ x, x = wc := ⟨wc, rfl⟩
          subst hw5
          obtain ⟨aw, dw, N, hN, rfl, hatw, htkw, hblw⟩ := hcut
          rw [hLl] at hN
          have hN1 : N ≤ cl.length + M := by omega
          have hN2 : cl.length + M ≤ N := by omega
          have hb5 : Below w.heap.size w w5 := hbq.trans (hblw.mono hbq.size)
          have hT5 := hTq.below hblw
          have hrow5 : RowP w5 w.heap.size Z := hrowq.of (hblw.block _ hrowq.lt)
          have hgt5 : Gt w w5 aw N dw cl L := ⟨hatw, htkw, hb5⟩
          clear hatw htkw hblw hTq hrowq hbq hN
          obtain ⟨La, hLa⟩ : ∃ La, La = Top.top (dist ta tb tc) n.toNat xs := ⟨_, rfl⟩
          have HLa : Hid (La = Top.top (dist ta tb tc) n.toNat xs) := hLa
          have hLaok : ∀ q ∈ La, q.ok := fun q hq => by rw [hLa] at hq; exact hokx q (Top.top_mem _ hq)
          have hLal : La.length ≤ 4096 := by rw [hLa, Top.top_length]; omega
          clear hLa
          have hA := contacts_in w5 w5.drew a2 c2 xs T ta tb tc (Below.refl _ _).drew (h2.below hb5) (by omega) hT5
          have h15 := fun (wa : World) (a0 : Option Addr) (ds0 : List Pr) (A : Cin w5 w5.drew T ta tb tc xs a0 ds0 wa) => zap_nil A n La HLa.out ht hokx (by omega) hn1 hn2
          go_upto_region 24 with fail
          go_cut [22] from 113 to 117 (fun v wx => Ans w5 [] La v wx)
          case first =>
            have t0 := hT5.c0
            have t1 := hT5.c1
            have t2 := hT5.c2
            go_region_with (first | (go_at_call 8; refine hA.mono ?_; rintro e wa ⟨a0, ds0, rfl, A⟩; have e0 := A.tg.c0; have e1 := A.tg.c1; have e2 := A.tg.c2) | (go_at_call 15; refine (h15 wa a0 ds0 A).mono ?_; rintro e wz ⟨v, rfl, hv⟩))
            all_goals (go_wp2_with fail; go_meet; exact hv)
          case rest =>
          clear hA h15
          obtain ⟨w6, hw6⟩ : ∃ x, x = wc := ⟨wc, rfl⟩
          subst hw6
          obtain ⟨af, df, Nf, hNf, rfl, hatf, htkf, hblf⟩ := hcut
          simp only [List.length_nil, Nat.zero_add] at hNf
          subst hNf
          have hb6 : Below w.heap.size w w6 := hb5.trans (hblf.mono hb5.size)
          have hT6 := hT5.below hblf
          have hrow6 : RowP w6 w.heap.size Z := hrow5.of (hblf.block _ hrow5.lt)
          have hgt6 := hgt5.below hblf
          have hgf : Gt w6 w6 af La.length df [] La := ⟨hatf, htkf, Below.refl _ _⟩
          clear hatf htkf hblf hT5 hrow5 hgt5 hb5
          obtain ⟨S, hS⟩ : ∃ S, S = La ++ ys := ⟨_, rfl⟩
          have HS : Hid (S = La ++ ys) := hS
          have hSl : S.length = La.length + ys.length := by rw [hS]; simp
          have hS1 : S.length ≤ La.length + ys.length := by omega
          have hS2 : La.length + ys.length ≤ S.length := by omega
          have hmk := run_mkC La.length ys.length S.length hSl (by omega)
          have hSok : ∀ q ∈ S, q.ok := fun q hq => by
            rw [hS] at hq
            rcases List.mem_append.1 hq with h | h
            · exact hLaok q h
            · exact hoky q h
          clear hSl hS
          go_wp2
          clear hmk
          go_loopw [23, 126] (fun rs i wr => ∃ k : Nat, i = .int .i64 k ∧ k ≤ La.length ∧ rs = .slice (some ⟨w6.heap.size, 0, none⟩) k S.length ∧ Row wr w6.heap.size (laidTo S 0 k) ∧ Below w6.heap.size w6 wr) (fun _ i _ => La.length - (intOf i).toNat)
          case atStart => exact ⟨0, rfl, Nat.zero_le _, rfl, by rw [laidTo_zero]; exact Row.made w6 _, (Below.refl _ _).alloc (Nat.le_refl _) _⟩
          case round =>
            obtain ⟨k, rfl, hk, rfl, hrow, hbl⟩ := hrel
            by_cases hlt : k < La.length
            · obtain ⟨g, ha, hg2, hrg⟩ := (hgf.below hbl).at k La[k] hlt (by simp)
              subst ha
              obtain ⟨d0, d1, d2, d3, d4⟩ := five hrg
              have hkS : k < S.length := by omega
              have hSk : S[k] = La[k] := by
                have := HS.out
                subst this
                rw [List.getElem_append_left hlt]
              have hsz := hbl.size
              go_wp2_with (at_builtin; refine wpList_appendC rfl (.tmp 129) (.tmp 134) rfl w6.heap.size k S La[k] ⟨wr.heap.size, 0, none⟩ 1 (by rfl) (by rfl) (hrow.alloc _) hkS hSk (newsP wr La[k] 34) ?h)
              intro w1 hr1 hF1 hs1
              go_wp2
              go_roundw
              case rel => exact ⟨k + 1, by go_num, by omega, rfl, hr1, (hbl.alloc hsz _).trans (hF1.below_of (Nat.le_refl _) (by first | omega | (simp; omega)))⟩
              case measure => simp [intOf]; omega
            · have hkx : k = La.length := by omega
              subst hkx
              go_wp2
              go_loopw [23, 139] (fun rs i wr => ∃ k P : Nat, i = .int .i64 k ∧ k ≤ ys.length ∧ P ≤ La.length + k ∧ La.length + k ≤ P ∧ rs = .slice (some ⟨w6.heap.size, 0, none⟩) P S.length ∧ Row wr w6.heap.size (laidTo S 0 P) ∧ Below w6.heap.size w6 wr) (fun _ i _ => ys.length - (intOf i).toNat)
              case atStart => exact ⟨0, La.length, rfl, Nat.zero_le _, by omega, by omega, rfl, hrow, hbl⟩
              case round =>
                clear hrow hbl
                obtain ⟨k, P, rfl, hk, hP1, hP2, rfl, hrow, hbl⟩ := hrel
                by_cases hlt : k < ys.length
                · obtain ⟨b, off, ha, hrr⟩ := Ps.at h3 (by omega)
                  subst ha
                  have hbs : b < w.heap.size := World.block_lt_of_cell? w _ (five (hrr k hlt)).1
                  obtain ⟨d0, d1, d2, d3, d4⟩ := five (rangeAt_below (hb6.trans (hbl.mono hb6.size)) hbs (hrr k hlt))
                  have hPS : P < S.length := by omega
                  have hSk : S[P] = ys[k] := by
                    have := HS.out
                    subst this
                    rw [List.getElem_append_right (by omega)]
                    congr 1
                    omega
                  go_wp2_with fail
                  refine (contact _ _ _ _ _ _).mono ?_
                  rintro e wx ⟨rfl, hbx⟩
                  clear d0 d1 d2 d3 d4
                  have hrowx := hrow.of (hbx.block _ hrow.lt)
                  have hblx := hbl.trans (hbx.mono hbl.size)
                  have hsz := hblx.size
                  go_wp2_with (at_builtin; refine wpList_appendC rfl (.tmp 142) (.tmp 148) rfl w6.heap.size P S ys[k] ⟨wx.heap.size, 0, none⟩ 1 (by rfl) (by rfl) (hrowx.alloc _) hPS hSk (newsP wx ys[k] 34) ?h)
                  intro w1 hr1 hF1 hs1
                  go_wp2
                  go_roundw
                  case rel => exact ⟨k + 1, P + 1, by go_num, by omega, by omega, by omega, rfl, hr1, (hblx.alloc hsz _).trans (hF1.below_of (Nat.le_refl _) (by first | omega | (simp; omega)))⟩
                  case measure => simp [intOf]; omega
                · obtain rfl : P = S.length := by omega
                  rw [laidTo_full] at hrow
                  clear hP1 hP2 hgf
                  obtain ⟨w7, hw7⟩ : ∃ x, x = wr := ⟨wr, rfl⟩
                  subst hw7
                  have hb7 : Below w.heap.size w w7 := hb6.trans (hbl.mono hb6.size)
                  have hT7 := hT6.below hbl
                  have hrow7 : RowP w7 w.heap.size Z := hrow6.of (hbl.block _ hrow6.lt)
                  have hgt7 := hgt6.below hbl
                  clear hT6 hrow6 hgt6 hb6 hbl
                  have hLm : L = Top.top (dist ta tb tc) (n - (cl.length : Int)).toNat S := by
                    have hap2 := hap
                    rw [HZ.out] at hap2
                    rw [HL.out, HS.out, HLa.out, HZ.out]
                    exact (Top.top_parts _ _ _ (by omega) xs ys hap2).symm
                  have HLm : Hid _ := hLm
                  clear hLm
                  have hA := contacts_in w7 w7.drew a1 c1 cl T ta tb tc (Below.refl _ _).drew (h1.below hb7) (by omega) hT7
                  have h15 := fun (wa : World) (a0 : Option Addr) (ds0 : List Pr) (A : Cin w7 w7.drew T ta tb tc cl a0 ds0 wa) => zap_row (c9 := S.length) A (Nat.le_refl _) hrow n L HLm.out ht hSok (by omega) (by omega) hn1 hn2
                  go_upto_region 36 with fail
                  clear hk hlt
                  go_cut [26] from 151 to 156 (fun v wx => Ans w7 cl L v wx)
                  case first =>
                    have t0 := hT7.c0
                    have t1 := hT7.c1
                    have t2 := hT7.c2
                    go_region_with (first | (go_at_call 8; refine hA.mono ?_; rintro e wa ⟨a0, ds0, rfl, A⟩; have e0 := A.tg.c0; have e1 := A.tg.c1; have e2 := A.tg.c2) | (go_at_call 15; refine (h15 wa a0 ds0 A).mono ?_; rintro e wz ⟨v, rfl, hv⟩))
                    all_goals (go_wp2_with fail; go_meet; exact hv)
                  case rest =>
                  clear hA h15
                  obtain ⟨w8, hw8⟩ : ∃ x, x = wc := ⟨wc, rfl⟩
                  subst hw8
                  obtain ⟨am, dm, Nm, hNm, rfl, hatm, htkm, hblm⟩ := hcut
                  have hNN : N = Nm := by omega
                  subst hNN
                  clear hNm
                  have HLl : Hid (L.length = M) := hLl
                  clear hLl
                  have hb8 : Below w.heap.size w w8 := hb7.trans (hblm.mono hb7.size)
                  have hfn : Fn5 w w8 aw am N dw dm cl L Z := ⟨hgt7.below hblm, ⟨hatm, htkm, hb8⟩, hrow7.of (hblm.block _ hrow7.lt)⟩
                  clear hatm htkm hblm hT7 hrow7 hgt7 hb7 hb8 hrow
                  have hNb : ((N : Int) == (cl.length : Int) + (M : Int)) = true := by simp; omega
                  go_wp2
                  rename ((N : Int) = (cl.length : Int) + (M : Int)) => hNX
                  clear hNb hNX
                  go_loopw [27] (fun i wr => ∃ j : Nat, i = .int .i64 j ∧ j ≤ cl.length ∧ Fn5 w wr aw am N dw dm cl L Z) (fun i _ => cl.length - (intOf i).toNat)
                  case atStart => exact ⟨0, rfl, Nat.zero_le _, hfn⟩
                  case round =>
                    clear hfn
                    obtain ⟨j, rfl, hj, hfn⟩ := hrel
                    by_cases hj1 : j < cl.length
                    · obtain ⟨b, off, ha, hrr⟩ := Ps.at h1 (by omega)
                      subst ha
                      have hbs : b < w.heap.size := World.block_lt_of_cell? w _ (five (hrr j hj1)).1
                      obtain ⟨c0, c1, c2, c3, c4⟩ := five (rangeAt_below hfn.gw.bl hbs (hrr j hj1))
                      obtain ⟨g, ha, hg2, hrg⟩ := hfn.gw.at j cl[j] (by omega) (by rw [List.getElem?_append_left hj1, List.getElem?_eq_getElem hj1])
                      subst ha
                      obtain ⟨d0, d1, d2, d3, d4⟩ := five hrg
                      have hbs' := Nat.lt_of_lt_of_le hbs hfn.gw.bl.size
                      have hj2 : (j : Int) < (N : Int) := by omega
                      have hj3 : j < N := by omega
                      have heq := fun (a b c a' b' c' : Int) => eq30 9996 a b c a' b' c'
                      go_wp2
                      go_region_held3 (fun w' => w'.cell? ⟨b, off + j * 5, none⟩ = some (.int .u64 cl[j].a) ∧ w'.cell? ⟨b, off + j * 5 + 1, none⟩ = some (.int .u64 cl[j].b) ∧ w'.cell? ⟨b, off + j * 5 + 2, none⟩ = some (.int .u64 cl[j].c) ∧ w'.cell? ⟨b, off + j * 5 + 3, none⟩ = some (.string cl[j].nm) ∧ w'.cell? ⟨b, off + j * 5 + 4, none⟩ = some (.string cl[j].ad) ∧ w'.cell? ⟨g, j * 5, none⟩ = some (.int .u64 cl[j].a) ∧ w'.cell? ⟨g, j * 5 + 1, none⟩ = some (.int .u64 cl[j].b) ∧ w'.cell? ⟨g, j * 5 + 2, none⟩ = some (.int .u64 cl[j].c) ∧ w'.cell? ⟨g, j * 5 + 3, none⟩ = some (.string cl[j].nm) ∧ w'.cell? ⟨g, j * 5 + 4, none⟩ = some (.string cl[j].ad)) (go_keep)
                        ((go_at_call 10; refine (contact _ _ _ _ _ _).mono ?_; rintro e wx ⟨rfl, hbx⟩; have hcx := bcell hbx; simp only [World.size_drew] at hcx))
                      rename_i hHeld
                      clear hHeld
                      all_goals
                        go_wp2
                        go_roundw
                        case rel => exact ⟨j + 1, by go_num, by omega, hfn.below (w' := wx) (Below.trans ((Below.refl _ _).drew) hbx)⟩
                        case measure => simp [intOf]; omega
                    · go_wp2
                      clear hj hj1
                      go_loopw [187] (fun i wr => ∃ j : Nat, i = .int .i64 j ∧ j ≤ N ∧ Fn5 w wr aw am N dw dm cl L Z) (fun i _ => N - (intOf i).toNat)
                      case atStart => exact ⟨0, rfl, Nat.zero_le _, hfn⟩
                      case round =>
                        clear hfn
                        obtain ⟨j, rfl, hj, hfn⟩ := hrel
                        by_cases hj1 : j < N
                        · have hjl : j < (cl ++ L).length := by rw [List.length_append, HLl.out]; omega
                          obtain ⟨g, ha, hg2, hrg⟩ := hfn.gw.at j (cl ++ L)[j] hj1 (List.getElem?_eq_getElem hjl)
                          subst ha
                          obtain ⟨g', ha, hg2', hrg'⟩ := hfn.gm.at j (cl ++ L)[j] hj1 (List.getElem?_eq_getElem hjl)
                          subst ha
                          generalize (cl ++ L)[j] = q at *
                          obtain ⟨d0, d1, d2, d3, d4⟩ := five hrg
                          obtain ⟨c0, c1, c2, c3, c4⟩ := five hrg'
                          have hj2 : (j : Int) < (N : Int) := by omega
                          have heq := fun (a b c a' b' c' : Int) => eq30 9996 a b c a' b' c'
                          clear hrg hrg' hjl
                          go_wp2
                          go_quiet (fail)
                          go_wp2
                          go_roundw
                          case rel => exact ⟨j + 1, by go_num, by omega, hfn.below (Below.drewN' (Below.refl _ _) _)⟩
                          case measure => simp [intOf]; omega
                        · by_cases hM0 : 0 < M
                          · have hZ0 : 0 < Z.length := by have := HM.out; omega
                            have hM1 : (0 : Int) < (M : Int) := by omega
                            go_wp2
                            clear hj hj1
                            go_loopw [29, 30] (fun bs i wr => ∃ b k : Nat, bs = .int .i64 b ∧ i = .int .i64 k ∧ b < k ∧ k ≤ Z.length ∧ Best ta tb tc Z b k ∧ Fn5 w wr aw am N dw dm cl L Z) (fun _ i _ => Z.length - (intOf i).toNat)
                            case atStart => exact ⟨0, 1, rfl, rfl, by omega, by omega, Best.one ta tb tc Z hZ0, hfn⟩
                            case round =>
                              clear hfn
                              obtain ⟨b, k, rfl, rfl, hbk, hk, hbest, hfn⟩ := hrel
                              have hbZ : b < Z.length := by omega
                              have hokb : Z[b].ok := hok _ (List.getElem_mem hbZ)
                              have hrb := hfn.rz.range b hbZ
                              have hwz := hfn.rz.lt
                              obtain ⟨d0, d1, d2, d3, d4⟩ := five hrb
                              have hb2 : (b : Int) < (Z.length : Int) := by omega
                              by_cases hk1 : k < Z.length
                              · obtain ⟨c0, c1, c2, c3, c4⟩ := five (hfn.rz.range k hk1)
                                have hokk : Z[k].ok := hok _ (List.getElem_mem hk1)
                                have hk2 : (k : Int) < (Z.length : Int) := by omega
                                have Hbest : Hid _ := hbest
                                clear hbest hrb
                                cases hbb : decide (dist ta tb tc Z[k] < dist ta tb tc Z[b])
                                · go_wp2
                                  go_region_held3 (fun w' => w'.cell? ⟨w.heap.size, k * 5, none⟩ = some (.int .u64 Z[k].a) ∧ w'.cell? ⟨w.heap.size, k * 5 + 1, none⟩ = some (.int .u64 Z[k].b) ∧ w'.cell? ⟨w.heap.size, k * 5 + 2, none⟩ = some (.int .u64 Z[k].c) ∧ w'.cell? ⟨w.heap.size, k * 5 + 3, none⟩ = some (.string Z[k].nm) ∧ w'.cell? ⟨w.heap.size, k * 5 + 4, none⟩ = some (.string Z[k].ad) ∧ w'.cell? ⟨w.heap.size, b * 5, none⟩ = some (.int .u64 Z[b].a) ∧ w'.cell? ⟨w.heap.size, b * 5 + 1, none⟩ = some (.int .u64 Z[b].b) ∧ w'.cell? ⟨w.heap.size, b * 5 + 2, none⟩ = some (.int .u64 Z[b].c) ∧ w'.cell? ⟨w.heap.size, b * 5 + 3, none⟩ = some (.string Z[b].nm) ∧ w'.cell? ⟨w.heap.size, b * 5 + 4, none⟩ = some (.string Z[b].ad)) (go_keep)
                                    ((go_at_call 17; refine (closer_at Z[k] Z[b] ta tb tc _ false hbb ht hokk hokb).mono ?_; rintro e wx ⟨rfl, hbx⟩; have hcx := bcell hbx; simp only [World.size_drew] at hcx))
                                  rename_i hHeld
                                  clear hHeld
                                  all_goals
                                    go_wp2
                                    go_roundw
                                    case rel => exact ⟨b, k + 1, rfl, by go_num, by omega, by omega, Best.keep Hbest.out hbZ hk1 hbb, hfn.below (w' := wx) (Below.trans ((Below.refl _ _).drew) hbx)⟩
                                    case measure => simp [intOf]; omega
                                · go_wp2
                                  go_region_held3 (fun w' => w'.cell? ⟨w.heap.size, k * 5, none⟩ = some (.int .u64 Z[k].a) ∧ w'.cell? ⟨w.heap.size, k * 5 + 1, none⟩ = some (.int .u64 Z[k].b) ∧ w'.cell? ⟨w.heap.size, k * 5 + 2, none⟩ = some (.int .u64 Z[k].c) ∧ w'.cell? ⟨w.heap.size, k * 5 + 3, none⟩ = some (.string Z[k].nm) ∧ w'.cell? ⟨w.heap.size, k * 5 + 4, none⟩ = some (.string Z[k].ad) ∧ w'.cell? ⟨w.heap.size, b * 5, none⟩ = some (.int .u64 Z[b].a) ∧ w'.cell? ⟨w.heap.size, b * 5 + 1, none⟩ = some (.int .u64 Z[b].b) ∧ w'.cell? ⟨w.heap.size, b * 5 + 2, none⟩ = some (.int .u64 Z[b].c) ∧ w'.cell? ⟨w.heap.size, b * 5 + 3, none⟩ = some (.string Z[b].nm) ∧ w'.cell? ⟨w.heap.size, b * 5 + 4, none⟩ = some (.string Z[b].ad)) (go_keep)
                                    ((go_at_call 17; refine (closer_at Z[k] Z[b] ta tb tc _ true hbb ht hokk hokb).mono ?_; rintro e wx ⟨rfl, hbx⟩; have hcx := bcell hbx; simp only [World.size_drew] at hcx))
                                  rename_i hHeld
                                  clear hHeld
                                  all_goals
                                    go_wp2
                                    go_roundw
                                    case rel => exact ⟨k, k + 1, rfl, by go_num, by omega, by omega, Best.turn Hbest.out hbZ hk1 hbb, hfn.below (w' := wx) (Below.trans ((Below.refl _ _).drew) hbx)⟩
                                    case measure => simp [intOf]; omega
                              · have hrank : Top.rank (dist ta tb tc) Z[b] Z = 0 := Best.rank hbest hbZ (by omega)
                                have hL0 : L[0]? = some Z[b] := by
                                  rw [HL.out]
                                  have := Top.top_rank (dist ta tb tc) hap (List.getElem_mem hbZ) (n - (cl.length : Int)).toNat (by rw [hrank]; have := HM.out; omega)
                                  rwa [hrank] at this
                                obtain ⟨g, ha, hg2, hrg⟩ := hfn.gw.at cl.length Z[b] (by omega) (by rw [List.getElem?_append_right (Nat.le_refl _), Nat.sub_self]; exact hL0)
                                subst ha
                                clear hL0 hrank hbest hrb
                                obtain ⟨c0, c1, c2, c3, c4⟩ := five hrg
                                have hj2 : (cl.length : Int) < (N : Int) := by omega
                                have hj3 : cl.length < N := by omega
                                have heq := fun (a b c a' b' c' : Int) => eq30 9996 a b c a' b' c'
                                go_wp2
                                go_region_held3 (fun w' => w'.cell? ⟨w.heap.size, b * 5, none⟩ = some (.int .u64 Z[b].a) ∧ w'.cell? ⟨w.heap.size, b * 5 + 1, none⟩ = some (.int .u64 Z[b].b) ∧ w'.cell? ⟨w.heap.size, b * 5 + 2, none⟩ = some (.int .u64 Z[b].c) ∧ w'.cell? ⟨w.heap.size, b * 5 + 3, none⟩ = some (.string Z[b].nm) ∧ w'.cell? ⟨w.heap.size, b * 5 + 4, none⟩ = some (.string Z[b].ad) ∧ w'.cell? ⟨g, cl.length * 5, none⟩ = some (.int .u64 Z[b].a) ∧ w'.cell? ⟨g, cl.length * 5 + 1, none⟩ = some (.int .u64 Z[b].b) ∧ w'.cell? ⟨g, cl.length * 5 + 2, none⟩ = some (.int .u64 Z[b].c) ∧ w'.cell? ⟨g, cl.length * 5 + 3, none⟩ = some (.string Z[b].nm) ∧ w'.cell? ⟨g, cl.length * 5 + 4, none⟩ = some (.string Z[b].ad)) (go_keep)
                                  ((go_at_call 10; refine (contact _ _ _ _ _ _).mono ?_; rintro e wx ⟨rfl, hbx⟩; have hcx := bcell hbx; simp only [World.size_drew] at hcx))
                                rename_i hHeld
                                clear hHeld
                                all_goals
                                  go_wp2
                                  go_ret
                                  exact ⟨rfl, hfn.gw.bl.trans ((Below.trans ((Below.refl _ _).drew) hbx).mono hfn.gw.bl.size)⟩
                          · have hM1 : (M : Int) ≤ 0 := by omega
                            go_wp2
                            go_ret
                            exact ⟨rfl, hfn.gw.bl⟩
end Go.Proofs.Qxb6619336a
