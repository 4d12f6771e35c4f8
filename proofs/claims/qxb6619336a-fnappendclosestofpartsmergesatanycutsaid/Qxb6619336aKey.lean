import Derived.Test.Qxb6619336aBin
import Derived.Test.Qxb6619336aTop
import Derived.Test.Qxb6619336aOpen
namespace Go.Proofs.Qxb6619336a
open Go.RowKit

/-! ### distances as numbers -/
def xr (a b : Int) : Int := bits .xor .u64 a b
def M64 : Nat := 18446744073709551616
theorem xr_eq (a t : Int) (h0 : 0 ≤ a) (h1 : a ≤ 18446744073709551615) (t0 : 0 ≤ t) (t1 : t ≤ 18446744073709551615) : xr a t = ((a.toNat ^^^ t.toNat : Nat) : Int) := by
  obtain ⟨x, rfl⟩ := Int.eq_ofNat_of_zero_le h0
  obtain ⟨y, rfl⟩ := Int.eq_ofNat_of_zero_le t0
  unfold xr
  rw [bits_xor_u64_nat x y (by omega) (by omega)]
  simp
theorem xr_range (a t : Int) (h0 : 0 ≤ a) (h1 : a ≤ 18446744073709551615) (t0 : 0 ≤ t) (t1 : t ≤ 18446744073709551615) : 0 ≤ xr a t ∧ xr a t ≤ 18446744073709551615 := by
  rw [xr_eq a t h0 h1 t0 t1]
  have : a.toNat ^^^ t.toNat < 2 ^ 64 := Nat.xor_lt_two_pow (by omega) (by omega)
  omega
theorem xr_inj (a b t : Int) (h0 : 0 ≤ a) (h1 : a ≤ 18446744073709551615) (b0 : 0 ≤ b) (b1 : b ≤ 18446744073709551615) (t0 : 0 ≤ t) (t1 : t ≤ 18446744073709551615) (h : xr a t = xr b t) : a = b := by
  rw [xr_eq a t h0 h1 t0 t1, xr_eq b t b0 b1 t0 t1] at h
  have h' : a.toNat ^^^ t.toNat = b.toNat ^^^ t.toNat := by omega
  have e : (a.toNat ^^^ t.toNat) ^^^ t.toNat = (b.toNat ^^^ t.toNat) ^^^ t.toNat := by rw [h']
  rw [Nat.xor_assoc, Nat.xor_assoc, Nat.xor_self, Nat.xor_zero, Nat.xor_zero] at e
  omega
/-- three words as one number -/
def num (x y z : Int) : Nat := (z.toNat * M64 + y.toNat) * M64 + x.toNat
theorem num_lt (x y z x' y' z' : Int) (hx : 0 ≤ x ∧ x ≤ 18446744073709551615) (hy : 0 ≤ y ∧ y ≤ 18446744073709551615) (hz : 0 ≤ z ∧ z ≤ 18446744073709551615)
    (hx' : 0 ≤ x' ∧ x' ≤ 18446744073709551615) (hy' : 0 ≤ y' ∧ y' ≤ 18446744073709551615) (hz' : 0 ≤ z' ∧ z' ≤ 18446744073709551615) :
    num x y z < num x' y' z' ↔ z < z' ∨ (z = z' ∧ (y < y' ∨ (y = y' ∧ x < x'))) := by
  unfold num M64
  omega
theorem cmp3_lt (x y z x' y' z' : Int) (hx : 0 ≤ x ∧ x ≤ 18446744073709551615) (hy : 0 ≤ y ∧ y ≤ 18446744073709551615) (hz : 0 ≤ z ∧ z ≤ 18446744073709551615)
    (hx' : 0 ≤ x' ∧ x' ≤ 18446744073709551615) (hy' : 0 ≤ y' ∧ y' ≤ 18446744073709551615) (hz' : 0 ≤ z' ∧ z' ≤ 18446744073709551615) :
    cmp3 x y z x' y' z' < 0 ↔ num x y z < num x' y' z' := by
  rw [num_lt x y z x' y' z' hx hy hz hx' hy' hz']
  unfold cmp3
  (repeat' split) <;> omega

/-- the distance of p from the target -/
def dist (ta tb tc : Int) (p : Pr) : Nat := num (xr p.a ta) (xr p.b tb) (xr p.c tc)
def Tok (ta tb tc : Int) : Prop := (0 ≤ ta ∧ ta ≤ 18446744073709551615) ∧ (0 ≤ tb ∧ tb ≤ 18446744073709551615) ∧ (0 ≤ tc ∧ tc ≤ 18446744073709551615)
theorem xr_ok {ta tb tc : Int} (ht : Tok ta tb tc) {p : Pr} (hp : p.ok) : (0 ≤ xr p.a ta ∧ xr p.a ta ≤ 18446744073709551615) ∧ (0 ≤ xr p.b tb ∧ xr p.b tb ≤ 18446744073709551615) ∧ (0 ≤ xr p.c tc ∧ xr p.c tc ≤ 18446744073709551615) :=
  ⟨xr_range _ _ hp.1.1 hp.1.2 ht.1.1 ht.1.2, xr_range _ _ hp.2.1.1 hp.2.1.2 ht.2.1.1 ht.2.1.2, xr_range _ _ hp.2.2.1 hp.2.2.2 ht.2.2.1 ht.2.2.2⟩
/-- the search's comparison says which of two is nearer -/
theorem cm_lt {ta tb tc : Int} (ht : Tok ta tb tc) {p c : Pr} (hp : p.ok) (hc : c.ok) : cm ta tb tc (xr c.a ta) (xr c.b tb) (xr c.c tc) p < 0 ↔ dist ta tb tc p < dist ta tb tc c := by
  obtain ⟨h1, h2, h3⟩ := xr_ok ht hp
  obtain ⟨k1, k2, k3⟩ := xr_ok ht hc
  exact cmp3_lt _ _ _ _ _ _ h1 h2 h3 k1 k2 k3
theorem num_inj (x y z x' y' z' : Int) (hx : 0 ≤ x ∧ x ≤ 18446744073709551615) (hy : 0 ≤ y ∧ y ≤ 18446744073709551615) (hz : 0 ≤ z ∧ z ≤ 18446744073709551615)
    (hx' : 0 ≤ x' ∧ x' ≤ 18446744073709551615) (hy' : 0 ≤ y' ∧ y' ≤ 18446744073709551615) (hz' : 0 ≤ z' ∧ z' ≤ 18446744073709551615) (h : num x y z = num x' y' z') : x = x' ∧ y = y' ∧ z = z' := by
  unfold num M64 at h
  omega
theorem dist_inj {ta tb tc : Int} (ht : Tok ta tb tc) {p q : Pr} (hp : p.ok) (hq : q.ok) (h : dist ta tb tc p = dist ta tb tc q) : p.a = q.a ∧ p.b = q.b ∧ p.c = q.c := by
  obtain ⟨h1, h2, h3⟩ := xr_ok ht hp
  obtain ⟨k1, k2, k3⟩ := xr_ok ht hq
  obtain ⟨e1, e2, e3⟩ := num_inj _ _ _ _ _ _ h1 h2 h3 k1 k2 k3 h
  exact ⟨xr_inj _ _ _ hp.1.1 hp.1.2 hq.1.1 hq.1.2 ht.1.1 ht.1.2 e1, xr_inj _ _ _ hp.2.1.1 hp.2.1.2 hq.2.1.1 hq.2.1.2 ht.2.1.1 ht.2.1.2 e2, xr_inj _ _ _ hp.2.2.1 hp.2.2.2 hq.2.2.1 hq.2.2.2 ht.2.2.1 ht.2.2.2 e3⟩
end Go.Proofs.Qxb6619336a
