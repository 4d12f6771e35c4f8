import Derived.Test.Qxb6619336aApc
import Derived.BigQuiet
import Derived.BigRegion
namespace Go.Proofs.Qxb6619336a
open Go.RowKit
attribute [local go_sem ↓] Go.wp_at_zero Go.wp_at_succ

theorem Below.drewN' {B : Nat} {w w' : World} (h : Below B w w') (n : Nat) : Below B w (w'.drewN n) := ((Fr.of_below h).drewN n).below
/-! ### zzWanted -/
theorem wanted_any (n s c : Int) (w : World) (hn1 : -9223372036854775808 ≤ n) (hn2 : n ≤ 9223372036854775807) (hs : 0 ≤ s) (hs2 : s ≤ 100000) (hc : 0 ≤ c) (hc2 : c ≤ 100000) :
    Calls Try.prog 14 #[.int .i64 n, .int .i64 s, .int .i64 c] w fun e w' => e = .returned (.int .i64 (min (n - s).toNat c)) ∧ w' = w := by
  by_cases h : n ≤ s
  · go_enter Try.func14, Try.ntmps14
    go_wp2
    go_ret
    exact ⟨ret_int (by omega), rfl⟩
  · have hw : IntKind.i64.wrap (n - s) = n - s := by rw [IntKind.wrap_i64]; omega
    by_cases h2 : c < n - s
    · go_enter Try.func14, Try.ntmps14
      go_wp2
      go_ret
      exact ⟨ret_int (by omega), rfl⟩
    · go_enter Try.func14, Try.ntmps14
      go_wp2
      go_ret
      exact ⟨ret_int (by omega), rfl⟩

/-! ### zzCloser -/
theorem closer_any (p q : Pr) (ta tb tc : Int) (w : World) (ht : Tok ta tb tc) (hp : p.ok) (hq : q.ok) :
    Calls Try.prog 17 #[.agg #[.int .u64 p.a, .int .u64 p.b, .int .u64 p.c, .string p.nm, .string p.ad], .agg #[.int .u64 q.a, .int .u64 q.b, .int .u64 q.c, .string q.nm, .string q.ad], .int .u64 ta, .int .u64 tb, .int .u64 tc] w fun e w' =>
      e = .returned (.bool (decide (dist ta tb tc p < dist ta tb tc q))) ∧ Below w.heap.size w w' := by
  obtain ⟨h1, h2, h3⟩ := xr_ok ht hp
  obtain ⟨k1, k2, k3⟩ := xr_ok ht hq
  have hlt := num_lt _ _ _ _ _ _ h1 h2 h3 k1 k2 k3
  have Hlt : Hid (dist ta tb tc p < dist ta tb tc q ↔ _) := hlt
  unfold xr at Hlt
  clear h1 h2 h3 k1 k2 k3 hlt
  have hb : Below w.heap.size w ((w.alloc (.cells #[.int .u64 p.a, .int .u64 p.b, .int .u64 p.c, .string p.nm, .string p.ad] 37)).alloc (.cells #[.int .u64 q.a, .int .u64 q.b, .int .u64 q.c, .string q.nm, .string q.ad] 37)) :=
    ((Below.refl _ _).alloc (Nat.le_refl _) _).alloc (by simp) _
  have Hb : Hid _ := hb
  clear hb
  cases e1 : (bits .xor .u64 p.c tc == bits .xor .u64 q.c tc)
  · go_enter Try.func17, Try.ntmps17
    go_wp2
    go_quiet (fail)
    go_wp2
    go_ret
    refine ⟨ret_bool ?_, Below.drewN' Hb.out _⟩
    simp only [beq_eq_false_iff_ne] at e1
    rw [decide_eq_decide, Hlt.out]
    omega
  · cases e2 : (bits .xor .u64 p.b tb == bits .xor .u64 q.b tb)
    · go_enter Try.func17, Try.ntmps17
      go_wp2
      go_quiet (fail)
      go_wp2
      go_quiet (fail)
      go_wp2
      go_ret
      refine ⟨ret_bool ?_, Below.drewN' Hb.out _⟩
      simp only [beq_eq_false_iff_ne, beq_iff_eq] at e1 e2
      rw [decide_eq_decide, Hlt.out]
      omega
    · go_enter Try.func17, Try.ntmps17
      go_wp2
      go_quiet (fail)
      go_wp2
      go_quiet (fail)
      go_wp2
      go_ret
      refine ⟨ret_bool ?_, Below.drewN' Hb.out _⟩
      simp only [beq_iff_eq] at e1 e2
      rw [decide_eq_decide, Hlt.out]
      omega

/-! ### ZZAppendClosest -/
theorem zappend_any (B : Nat) (a0 : Option Addr) (cl ds0 : List Pr) (a2 : Option Addr) (c2 : Nat) (qs : List Pr) (ta tb tc n : Int) (w : World) (hB : B ≤ w.heap.size)
    (hat : At w a0 cl.length ds0) (htk : ds0.take cl.length = cl) (hbase : ∀ g, a0 = some ⟨g, 0, none⟩ → B ≤ g) (hp : Ps w a2 qs) (hap : ∀ g b off, a0 = some ⟨g, 0, none⟩ → a2 = some ⟨b, off, none⟩ → qs ≠ [] → b ≠ g)
    (ht : Tok ta tb tc) (hok : ∀ q ∈ qs, q.ok) (hl1 : cl.length ≤ 50000) (hl2 : qs.length ≤ 50000) (hn1 : -9223372036854775808 ≤ n) (hn2 : n ≤ 9223372036854775807) :
    Calls Try.prog 15 #[.slice a0 cl.length ds0.length, .slice a2 qs.length c2, .agg #[.int .u64 ta, .int .u64 tb, .int .u64 tc], .int .i64 n] w fun e w' =>
      ∃ (a : Option Addr) (ds L : List Pr) (N : Nat), L = Top.top (dist ta tb tc) (n - cl.length).toNat qs ∧ N = cl.length + L.length ∧ e = .returned (.slice a N ds.length) ∧ At w' a N ds ∧
        ds.take N = cl ++ L ∧ (∀ g, a = some ⟨g, 0, none⟩ → B ≤ g) ∧ Below B w w' := by
  have hb0 : Below w.heap.size w (w.alloc (.cells #[.int .u64 ta, .int .u64 tb, .int .u64 tc] 32)) := (Below.refl _ _).alloc (Nat.le_refl _) _
  have hc := apc_any B a0 cl ds0 a2 c2 qs ta tb tc n (w.alloc (.cells #[.int .u64 ta, .int .u64 tb, .int .u64 tc] 32)) (by simp; omega) (hat.of hb0) htk hbase (hp.below hb0) hap ht hok hl1 hl2 hn1 hn2
  have hb1 := hb0.mono hB
  clear hat hp hap htk hbase hok hb0
  go_enter Try.func15, Try.ntmps15
  go_wp2_with fail
  refine hc.mono ?_
  rintro e wx ⟨a, ds, he, h1, h2, h3, h4⟩
  generalize hL : Top.top (dist ta tb tc) (n - cl.length).toNat qs = L at *
  generalize hN : cl.length + L.length = N at *
  have HL : Hid _ := hL
  have HN : Hid _ := hN
  subst he
  clear hL hN
  go_wp2
  go_ret
  exact ⟨a, ds, L, N, HL.out.symm, HN.out.symm, rfl, h1, h2, h3, hb1.trans h4⟩
/-! ### zzDistinct -/
def Dif (p q : Pr) : Prop := ¬ (p.a = q.a ∧ p.b = q.b ∧ p.c = q.c)
def DifTo (ps : List Pr) (k : Nat) : Prop := ∀ i j (hi : i < j) (hj : j < ps.length), i < k → Dif (ps[i]'(by omega)) ps[j]
def DifAt (ps : List Pr) (k m : Nat) (hk : k < ps.length) : Prop := ∀ j (hj : j < ps.length), k < j → j < m → Dif ps[k] ps[j]
theorem DifTo.step {ps : List Pr} {k : Nat} (h : DifTo ps k) (hk : k < ps.length) (h2 : DifAt ps k ps.length hk) : DifTo ps (k + 1) := by
  intro i j hi hj hlt
  by_cases e : i < k
  · exact h i j hi hj e
  · have e' : i = k := by omega
    subst e'
    exact h2 j hj hi hj
theorem DifAt.step {ps : List Pr} {k m : Nat} {hk : k < ps.length} (h : DifAt ps k m hk) (hm : m < ps.length) (hd : Dif ps[k] ps[m]) : DifAt ps k (m + 1) hk := by
  intro j hj hkj hlt
  by_cases e : j < m
  · exact h j hj hkj e
  · have e' : j = m := by omega
    subst e'
    exact hd
set_option maxHeartbeats 1000000 in
theorem distinct_any (a : Option Addr) (cap : Nat) (ps : List Pr) (w : World) (hp : Ps w a ps) (hl : ps.length ≤ 100000) :
    Calls Try.prog 13 #[.slice a ps.length cap] w fun e w' => ∃ b : Bool, e = .returned (.bool b) ∧ (b = true → DifTo ps ps.length) ∧ Below w.heap.size w w' := by
  go_enter Try.func13, Try.ntmps13
  go_wp2
  go_loopw [7] (fun i wr => ∃ k : Nat, i = .int .i64 k ∧ k ≤ ps.length ∧ DifTo ps k ∧ Below w.heap.size w wr) (fun i _ => ps.length - (intOf i).toNat)
  case atStart => exact ⟨0, rfl, Nat.zero_le _, fun i j hi hj h => by omega, Below.refl _ _⟩
  case round =>
    obtain ⟨k, rfl, hk, hd, hbl⟩ := hrel
    by_cases hlt : k < ps.length
    · have hwr : IntKind.i64.wrap ((k : Int) + 1) = (k : Int) + 1 := by rw [IntKind.wrap_i64]; omega
      go_wp2
      go_loopw [4] (fun i wr => ∃ m : Nat, i = .int .i64 m ∧ k < m ∧ m ≤ ps.length ∧ DifAt ps k m hlt ∧ Below w.heap.size w wr) (fun i _ => ps.length - (intOf i).toNat)
      case atStart => exact ⟨k + 1, by go_num, by omega, by omega, fun j hj h1 h2 => by omega, hbl⟩
      case round =>
        clear hbl
        obtain ⟨m, rfl, hkm, hm, hdm, hbl⟩ := hrel
        by_cases hlm : m < ps.length
        · obtain ⟨b, off, ha, hrr⟩ := Ps.at hp (by omega)
          subst ha
          have hbs : b < w.heap.size := World.block_lt_of_cell? w _ (five (hrr m hlm)).1
          obtain ⟨c0, c1, c2, c3, c4⟩ := five (rangeAt_below hbl hbs (hrr k hlt))
          obtain ⟨d0, d1, d2, d3, d4⟩ := five (rangeAt_below hbl hbs (hrr m hlm))
          clear c3 c4 d3 d4 hrr
          cases e0 : (ps[k].a == ps[m].a)
          · go_wp2
            go_quiet (fail)
            go_wp2
            go_roundw
            case rel =>
              simp only [beq_eq_false_iff_ne] at e0
              exact ⟨m + 1, by go_num, by omega, by omega, hdm.step hlm (fun h => e0 h.1), Below.drewN' hbl _⟩
            case measure => simp [intOf]; omega
          cases e1 : (ps[k].b == ps[m].b)
          · go_wp2
            go_quiet (fail)
            go_wp2
            go_roundw
            case rel =>
              simp only [beq_eq_false_iff_ne] at e1
              exact ⟨m + 1, by go_num, by omega, by omega, hdm.step hlm (fun h => e1 h.2.1), Below.drewN' hbl _⟩
            case measure => simp [intOf]; omega
          cases e2 : (ps[k].c == ps[m].c)
          · go_wp2
            go_quiet (fail)
            go_wp2
            go_roundw
            case rel =>
              simp only [beq_eq_false_iff_ne] at e2
              exact ⟨m + 1, by go_num, by omega, by omega, hdm.step hlm (fun h => e2 h.2.2), Below.drewN' hbl _⟩
            case measure => simp [intOf]; omega
          · go_wp2
            go_quiet (fail)
            go_wp2
            go_ret
            exact ⟨false, rfl, (fun h => by cases h), Below.drewN' hbl _⟩
        · have e : m = ps.length := by omega
          subst e
          go_wp2
          go_roundw
          case rel => exact ⟨k + 1, by go_num, by omega, hd.step hlt hdm, hbl⟩
          case measure => simp [intOf]; omega
    · have e : k = ps.length := by omega
      subst e
      go_wp2
      go_ret
      exact ⟨true, rfl, fun _ => hd, hbl⟩
end Go.Proofs.Qxb6619336a
