import Derived.Test.Qxb6619336aClo
namespace Go.Proofs.Qxb6619336a
open Go.RowKit
attribute [local go_sem ↓] Go.wp_at_zero Go.wp_at_succ

/-- the comparison that the search makes: contact p's distance from the target against (x, y, z) -/
def cm (ta tb tc x y z : Int) (p : Pr) : Int := cmp3 (bits .xor .u64 p.a ta) (bits .xor .u64 p.b tb) (bits .xor .u64 p.c tc) x y z
theorem clo_cm (p : Pr) (x y z : Int) (T : Nat) (ta tb tc : Int) (w : World) (h0 : w.cell? ⟨T, 0, none⟩ = some (.int .u64 ta)) (h1 : w.cell? ⟨T, 1, none⟩ = some (.int .u64 tb)) (h2 : w.cell? ⟨T, 2, none⟩ = some (.int .u64 tc)) :
    Calls Try.prog 23 #[.agg #[.int .u64 p.a, .int .u64 p.b, .int .u64 p.c, .string p.nm, .string p.ad], .agg #[.int .u64 x, .int .u64 y, .int .u64 z], .pointer (some ⟨T, 0, none⟩)] w fun e w' =>
      e = .returned (.int .i64 (cm ta tb tc x y z p)) ∧ Below w.heap.size w w' := closure_any p x y z T ta tb tc w h0 h1 h2

set_option maxHeartbeats 2000000 in
set_option maxRecDepth 1000000 in
theorem bin_any (A : Option Addr) (cap : Nat) (xs : List Pr) (x y z : Int) (T : Nat) (ta tb tc : Int) (w : World) (hp : Ps w A xs) (hl : xs.length ≤ 100000)
    (h0 : w.cell? ⟨T, 0, none⟩ = some (.int .u64 ta)) (h1 : w.cell? ⟨T, 1, none⟩ = some (.int .u64 tb)) (h2 : w.cell? ⟨T, 2, none⟩ = some (.int .u64 tc))
    (hmono : ∀ (i j : Nat) (hi : i < j) (hj : j < xs.length), cm ta tb tc x y z xs[j] < 0 → cm ta tb tc x y z (xs[i]'(by omega)) < 0) :
    Calls Try.prog 22 #[.slice A xs.length cap, .agg #[.int .u64 x, .int .u64 y, .int .u64 z], .func (.func 23) #[] #[.pointer (some ⟨T, 0, none⟩)]] w fun e w' =>
      (∃ (i : Nat) (f : Bool), e = .returned (.tuple #[.int .i64 i, .bool f]) ∧ i ≤ xs.length ∧ (∀ q (hq : q < xs.length), q < i → cm ta tb tc x y z xs[q] < 0) ∧ (∀ q (hq : q < xs.length), i ≤ q → 0 ≤ cm ta tb tc x y z xs[q])) ∧ Below w.heap.size w w' := by
  have hT : T < w.heap.size := World.block_lt_of_cell? w _ h0
  have Hm : Hid _ := hmono
  clear hmono
  go_enter Try.func22, Try.ntmps22
  go_wp2
  go_loopw [9, 10] (fun i j wr => ∃ lo hi : Nat, i = .int .i64 lo ∧ j = .int .i64 hi ∧ lo ≤ hi ∧ hi ≤ xs.length ∧ (∀ q (hq : q < xs.length), q < lo → cm ta tb tc x y z xs[q] < 0) ∧ (∀ q (hq : q < xs.length), hi ≤ q → 0 ≤ cm ta tb tc x y z xs[q]) ∧ Below (w.heap.size + 1) (w.alloc (.cells #[.int .u64 x, .int .u64 y, .int .u64 z] 32)) wr) (fun i j _ => (intOf j).toNat - (intOf i).toNat)
  case atStart => exact ⟨0, xs.length, rfl, rfl, Nat.zero_le _, Nat.le_refl _, by omega, by omega, Below.refl _ _⟩
  case round =>
    obtain ⟨lo, hi, rfl, rfl, l1, l2, hlo, hhi, hbl⟩ := hrel
    have Hlo : Hid _ := hlo
    have Hhi : Hid _ := hhi
    clear hlo hhi
    by_cases hlt : lo < hi
    · obtain ⟨b, off, ha, hrr⟩ := Ps.at hp (by omega)
      subst ha
      obtain ⟨h, hh⟩ : ∃ h : Nat, h = (lo + hi) / 2 := ⟨_, rfl⟩
      have hh1 : lo ≤ h := by omega
      have hh2 : h < hi := by omega
      have hh3 : h < xs.length := by omega
      have hb : b < w.heap.size := World.block_lt_of_cell? w _ (five (hrr h hh3)).1
      have hcs := five (rangeAt_below hbl (Nat.lt_of_lt_of_le hb (Nat.le_succ _)) (World.rangeAt_alloc (hrr h hh3) _))
      obtain ⟨c0, c1, c2, c3, c4⟩ := hcs
      have g0 : wr.cell? ⟨T, 0, none⟩ = some (.int .u64 ta) := (hbl.cell (p := ⟨T, 0, none⟩) (by show T < _; omega)).trans (by go_simp)
      have g1 : wr.cell? ⟨T, 1, none⟩ = some (.int .u64 tb) := (hbl.cell (p := ⟨T, 1, none⟩) (by show T < _; omega)).trans (by go_simp)
      have g2 : wr.cell? ⟨T, 2, none⟩ = some (.int .u64 tc) := (hbl.cell (p := ⟨T, 2, none⟩) (by show T < _; omega)).trans (by go_simp)
      have d0 : wr.cell? ⟨w.heap.size, 0, none⟩ = some (.int .u64 x) := (hbl.cell (p := ⟨w.heap.size, 0, none⟩) (by show w.heap.size < _; omega)).trans (by go_simp)
      have d1 : wr.cell? ⟨w.heap.size, 1, none⟩ = some (.int .u64 y) := (hbl.cell (p := ⟨w.heap.size, 1, none⟩) (by show w.heap.size < _; omega)).trans (by go_simp)
      have d2 : wr.cell? ⟨w.heap.size, 2, none⟩ = some (.int .u64 z) := (hbl.cell (p := ⟨w.heap.size, 2, none⟩) (by show w.heap.size < _; omega)).trans (by go_simp)
      have ehalf : ((lo : Int) + (hi : Int)) / 2 = (h : Int) := by omega
      have hzw := hbl.size
      simp only [World.size_alloc] at hzw
      clear h0 h1 h2 hh
      go_wp2
      go_region_with (go_at_call 23; refine (clo_cm xs[h] x y z T ta tb tc _ (by go_simp) (by go_simp) (by go_simp)).mono ?_; rintro e wx ⟨rfl, hbx⟩)
      all_goals
        have hbw : Below (w.heap.size + 1) (w.alloc (.cells #[.int .u64 x, .int .u64 y, .int .u64 z] 32)) wx := hbl.trans (Below.trans (Below.refl _ _).drew (hbx.mono (by simp only [World.size_drew]; omega)))
        by_cases hcm : cm ta tb tc x y z xs[h] < 0
        · go_wp2
          go_roundw
          case rel =>
            refine ⟨h + 1, hi, by go_num, rfl, by omega, l2, fun q hq hq2 => ?_, Hhi.out, hbw⟩
            by_cases e : q = h
            · subst e; exact hcm
            · exact Hm.out q h (by omega) hh3 hcm
          case measure => simp [intOf]; omega
        · go_wp2
          go_roundw
          case rel =>
            refine ⟨lo, h, rfl, rfl, hh1, by omega, Hlo.out, fun q hq hq2 => ?_, hbw⟩
            by_cases e : q = h
            · subst e; exact Int.not_lt.1 hcm
            · exact Int.not_lt.1 (fun hl => hcm (Hm.out h q (by omega) hq hl))
          case measure => simp [intOf]; omega
    · have e : lo = hi := by omega
      subst e
      by_cases hln : lo < xs.length
      · obtain ⟨b, off, ha, hrr⟩ := Ps.at hp (by omega)
        subst ha
        have hb : b < w.heap.size := World.block_lt_of_cell? w _ (five (hrr lo hln)).1
        have hcs := five (rangeAt_below hbl (Nat.lt_of_lt_of_le hb (Nat.le_succ _)) (World.rangeAt_alloc (hrr lo hln) _))
        obtain ⟨c0, c1, c2, c3, c4⟩ := hcs
        have g0 : wr.cell? ⟨T, 0, none⟩ = some (.int .u64 ta) := (hbl.cell (p := ⟨T, 0, none⟩) (by show T < _; omega)).trans (by go_simp)
        have g1 : wr.cell? ⟨T, 1, none⟩ = some (.int .u64 tb) := (hbl.cell (p := ⟨T, 1, none⟩) (by show T < _; omega)).trans (by go_simp)
        have g2 : wr.cell? ⟨T, 2, none⟩ = some (.int .u64 tc) := (hbl.cell (p := ⟨T, 2, none⟩) (by show T < _; omega)).trans (by go_simp)
        have d0 : wr.cell? ⟨w.heap.size, 0, none⟩ = some (.int .u64 x) := (hbl.cell (p := ⟨w.heap.size, 0, none⟩) (by show w.heap.size < _; omega)).trans (by go_simp)
        have d1 : wr.cell? ⟨w.heap.size, 1, none⟩ = some (.int .u64 y) := (hbl.cell (p := ⟨w.heap.size, 1, none⟩) (by show w.heap.size < _; omega)).trans (by go_simp)
        have d2 : wr.cell? ⟨w.heap.size, 2, none⟩ = some (.int .u64 z) := (hbl.cell (p := ⟨w.heap.size, 2, none⟩) (by show w.heap.size < _; omega)).trans (by go_simp)
        have hzw := hbl.size
        simp only [World.size_alloc] at hzw
        have hln2 : (lo : Int) < (xs.length : Int) := by omega
        have hz1 : w.heap.size < wr.heap.size := by omega
        have hz2 : b < wr.heap.size := by omega
        clear h0 h1 h2
        go_wp2
        go_region_held3 (fun w' => (w'.cell? ⟨b, off + lo * 5, none⟩ = some (.int .u64 xs[lo].a) ∧ w'.cell? ⟨b, off + lo * 5 + 1, none⟩ = some (.int .u64 xs[lo].b) ∧ w'.cell? ⟨b, off + lo * 5 + 2, none⟩ = some (.int .u64 xs[lo].c) ∧ w'.cell? ⟨b, off + lo * 5 + 3, none⟩ = some (.string xs[lo].nm) ∧ w'.cell? ⟨b, off + lo * 5 + 4, none⟩ = some (.string xs[lo].ad)) ∧
            w'.cell? ⟨w.heap.size, 0, none⟩ = some (.int .u64 x) ∧ w'.cell? ⟨w.heap.size, 1, none⟩ = some (.int .u64 y) ∧ w'.cell? ⟨w.heap.size, 2, none⟩ = some (.int .u64 z)) (go_keep)
          ((go_at_call 23; refine (clo_cm xs[lo] x y z T ta tb tc _ (by go_simp) (by go_simp) (by go_simp)).mono ?_; rintro e wx ⟨rfl, hbx⟩; have hcx := bcell hbx; simp only [World.size_drew] at hcx))
        all_goals
          have hbw : Below (w.heap.size + 1) (w.alloc (.cells #[.int .u64 x, .int .u64 y, .int .u64 z] 32)) wx := hbl.trans (Below.trans (Below.refl _ _).drew (hbx.mono (by simp only [World.size_drew]; omega)))
          go_wp2
          go_ret2
          exact ⟨⟨lo, _, rfl, l2, Hlo.out, Hhi.out⟩, ((Below.refl _ _).alloc (Nat.le_refl _) _).trans (hbw.mono (by omega))⟩
      · have hd : decide ((lo : Int) < (xs.length : Int)) = false := by simp; omega
        go_wp2
        go_quiet (fail)
        go_wp2
        go_ret2
        exact ⟨⟨lo, _, rfl, l2, Hlo.out, Hhi.out⟩, ((Below.refl _ _).alloc (Nat.le_refl _) _).trans (Below.trans (hbl.mono (by omega)) ⟨rfl, rfl, rfl, Nat.le_refl _, fun _ _ => rfl⟩)⟩
end Go.Proofs.Qxb6619336a
