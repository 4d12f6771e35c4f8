import Derived.Test.Qxb6619339aRows
import Derived.WalkKit
import Derived.Deep.Light
import Derived.RowKit3
namespace Go.Proofs.Qxb6619339a
open Go.RowKit

/-! ### the plain functions: where code point k of s begins -/
def wd (s : ByteArray) (i : Nat) : Nat := (Utf8.decode s i).2
def bd (s : ByteArray) : Nat → Nat
  | 0 => 0
  | k + 1 => bd s k + wd s (bd s k)

/-- the width, out of the four bytes and whether each of the last three continues -/
def wF (b0 b1 b2 b3 : Nat) (c1 c2 c3 : Bool) : Nat :=
  if b0 < 128 then 1
  else if b0 / 32 = 6 ∧ c1 = true then (if 128 ≤ (b0 % 32) * 64 + b1 % 64 then 2 else 1)
  else if b0 / 16 = 14 ∧ c1 = true ∧ c2 = true then
    (if 2048 ≤ (b0 % 16) * 4096 + (b1 % 64) * 64 + b2 % 64 ∧ Utf8.valid ((b0 % 16) * 4096 + (b1 % 64) * 64 + b2 % 64 : Nat) = true then 3 else 1)
  else if b0 / 8 = 30 ∧ c1 = true ∧ c2 = true ∧ c3 = true then
    (if 65536 ≤ (b0 % 8) * 262144 + (b1 % 64) * 4096 + (b2 % 64) * 64 + b3 % 64 ∧ Utf8.valid ((b0 % 8) * 262144 + (b1 % 64) * 4096 + (b2 % 64) * 64 + b3 % 64 : Nat) = true then 4 else 1)
  else 1
def atB (s : ByteArray) (i : Nat) : Nat := (s.get! i).toNat
def cont (s : ByteArray) (i : Nat) : Bool := decide (i < s.size) && atB s i / 64 == 2

theorem wd_eq (s : ByteArray) (i : Nat) : wd s i = wF (atB s i) (atB s (i + 1)) (atB s (i + 2)) (atB s (i + 3)) (cont s (i + 1)) (cont s (i + 2)) (cont s (i + 3)) := by
  unfold wd wF
  simp only [Utf8.decode]
  show (if atB s i < 128 then _ else _ : Nat × Nat).2 = _
  by_cases h0 : atB s i < 128
  · rw [if_pos h0, if_pos h0]
  rw [if_neg h0, if_neg h0]
  show (if (atB s i / 32 == 6 && cont s (i + 1)) = true then _ else _ : Nat × Nat).2 = _
  by_cases h1 : atB s i / 32 = 6 ∧ cont s (i + 1) = true
  · rw [if_pos (by simpa using h1), if_pos h1]
    show (if atB s i % 32 * 64 + atB s (i + 1) % 64 ≥ 128 then _ else _ : Nat × Nat).2 = _
    split <;> rfl
  rw [if_neg (by simpa using h1), if_neg h1]
  show (if (atB s i / 16 == 14 && cont s (i + 1) && cont s (i + 2)) = true then _ else _ : Nat × Nat).2 = _
  by_cases h2 : atB s i / 16 = 14 ∧ cont s (i + 1) = true ∧ cont s (i + 2) = true
  · rw [if_pos (by simpa [and_assoc] using h2), if_pos h2]
    show (if (decide (atB s i % 16 * 4096 + atB s (i + 1) % 64 * 64 + atB s (i + 2) % 64 ≥ 2048) && Utf8.valid (atB s i % 16 * 4096 + atB s (i + 1) % 64 * 64 + atB s (i + 2) % 64 : Nat)) = true then _ else _ : Nat × Nat).2 = _
    simp only [Bool.and_eq_true, decide_eq_true_eq, ge_iff_le]
    split <;> rfl
  rw [if_neg (by simpa [and_assoc] using h2), if_neg h2]
  show (if (atB s i / 8 == 30 && cont s (i + 1) && cont s (i + 2) && cont s (i + 3)) = true then _ else _ : Nat × Nat).2 = _
  by_cases h3 : atB s i / 8 = 30 ∧ cont s (i + 1) = true ∧ cont s (i + 2) = true ∧ cont s (i + 3) = true
  · rw [if_pos (by simpa [and_assoc] using h3), if_pos h3]
    show (if (decide (atB s i % 8 * 262144 + atB s (i + 1) % 64 * 4096 + atB s (i + 2) % 64 * 64 + atB s (i + 3) % 64 ≥ 65536) && Utf8.valid (atB s i % 8 * 262144 + atB s (i + 1) % 64 * 4096 + atB s (i + 2) % 64 * 64 + atB s (i + 3) % 64 : Nat)) = true then _ else _ : Nat × Nat).2 = _
    simp only [Bool.and_eq_true, decide_eq_true_eq, ge_iff_le]
    split <;> rfl
  rw [if_neg (by simpa [and_assoc] using h3), if_neg h3]

theorem wF_pos (b0 b1 b2 b3 : Nat) (c1 c2 c3 : Bool) : 1 ≤ wF b0 b1 b2 b3 c1 c2 c3 := by
  unfold wF
  repeat' split
  all_goals omega
theorem wF_cont (b0 b1 b2 b3 : Nat) (c1 c2 c3 : Bool) :
    (2 ≤ wF b0 b1 b2 b3 c1 c2 c3 → c1 = true) ∧ (3 ≤ wF b0 b1 b2 b3 c1 c2 c3 → c2 = true) ∧ (4 ≤ wF b0 b1 b2 b3 c1 c2 c3 → c3 = true) ∧ wF b0 b1 b2 b3 c1 c2 c3 ≤ 4 := by
  unfold wF
  repeat' split
  all_goals simp_all
theorem wF_kinds (b0 b1 b2 b3 : Nat) (c1 c2 c3 : Bool) : (wF b0 b1 b2 b3 c1 c2 c3 = 2 → b0 / 32 = 6) ∧ (wF b0 b1 b2 b3 c1 c2 c3 = 3 → b0 / 16 = 14) := by
  unfold wF
  repeat' split
  all_goals simp_all
/-- fewer bytes continue, none that the width needs is lost: the width is the same -/
theorem wF_cut (b0 b1 b2 b3 d1 d2 d3 : Nat) (c1 c2 c3 t1 t2 t3 : Bool)
    (h1 : t1 = true → c1 = true ∧ d1 = b1) (h2 : t2 = true → c2 = true ∧ d2 = b2) (h3 : t3 = true → c3 = true ∧ d3 = b3)
    (k1 : 2 ≤ wF b0 b1 b2 b3 c1 c2 c3 → t1 = true) (k2 : 3 ≤ wF b0 b1 b2 b3 c1 c2 c3 → t2 = true) (k3 : 4 ≤ wF b0 b1 b2 b3 c1 c2 c3 → t3 = true) :
    wF b0 d1 d2 d3 t1 t2 t3 = wF b0 b1 b2 b3 c1 c2 c3 := by
  by_cases g0 : b0 < 128
  · unfold wF; rw [if_pos g0, if_pos g0]
  cases t1
  · have e : wF b0 b1 b2 b3 c1 c2 c3 = 1 := by
      have := wF_pos b0 b1 b2 b3 c1 c2 c3
      by_cases h : 2 ≤ wF b0 b1 b2 b3 c1 c2 c3
      · exact absurd (k1 h) (by simp)
      · omega
    rw [e]; unfold wF; simp [g0]
  · obtain ⟨rfl, rfl⟩ := h1 rfl
    by_cases g1 : b0 / 32 = 6
    · unfold wF; simp [g0, g1]
    cases t2
    · have e : wF b0 d1 b2 b3 true c2 c3 = 1 := by
        have p := wF_pos b0 d1 b2 b3 true c2 c3
        have q := (wF_kinds b0 d1 b2 b3 true c2 c3).1
        by_cases h : 3 ≤ wF b0 d1 b2 b3 true c2 c3
        · exact absurd (k2 h) (by simp)
        · by_cases h' : wF b0 d1 b2 b3 true c2 c3 = 2
          · exact absurd (q h') g1
          · omega
      rw [e]; unfold wF; simp [g0, g1]
    · obtain ⟨rfl, rfl⟩ := h2 rfl
      by_cases g2 : b0 / 16 = 14
      · unfold wF; simp [g0, g1, g2]
      cases t3
      · have e : wF b0 d1 d2 b3 true true c3 = 1 := by
          have p := wF_pos b0 d1 d2 b3 true true c3
          have q := wF_kinds b0 d1 d2 b3 true true c3
          by_cases h : 4 ≤ wF b0 d1 d2 b3 true true c3
          · exact absurd (k3 h) (by simp)
          · by_cases h' : wF b0 d1 d2 b3 true true c3 = 2
            · exact absurd (q.1 h') g1
            · by_cases h'' : wF b0 d1 d2 b3 true true c3 = 3
              · exact absurd (q.2 h'') g2
              · omega
        rw [e]; unfold wF; simp [g0, g1, g2]
      · obtain ⟨rfl, rfl⟩ := h3 rfl
        rfl

theorem wd_pos (s : ByteArray) (i : Nat) : 1 ≤ wd s i := by rw [wd_eq]; exact wF_pos _ _ _ _ _ _ _
theorem wd_le (s : ByteArray) (i : Nat) (h : i < s.size) : i + wd s i ≤ s.size := by
  rw [wd_eq]
  have hc := wF_cont (atB s i) (atB s (i + 1)) (atB s (i + 2)) (atB s (i + 3)) (cont s (i + 1)) (cont s (i + 2)) (cont s (i + 3))
  have hp := wF_pos (atB s i) (atB s (i + 1)) (atB s (i + 2)) (atB s (i + 3)) (cont s (i + 1)) (cont s (i + 2)) (cont s (i + 3))
  generalize wF (atB s i) (atB s (i + 1)) (atB s (i + 2)) (atB s (i + 3)) (cont s (i + 1)) (cont s (i + 2)) (cont s (i + 3)) = W at *
  obtain ⟨h2, h3, h4, h5⟩ := hc
  have x2 : 2 ≤ W → i + 1 < s.size := fun q => by have := h2 q; simp [cont] at this; exact this.1
  have x3 : 3 ≤ W → i + 2 < s.size := fun q => by have := h3 q; simp [cont] at this; exact this.1
  have x4 : 4 ≤ W → i + 3 < s.size := fun q => by have := h4 q; simp [cont] at this; exact this.1
  omega
theorem get_cut (s : ByteArray) (a b q : Nat) (hb : b ≤ s.size) (h : a + q < b) : (s.extract a b).get! q = s.get! (a + q) := by
  have h1 : q < (s.extract a b).size := by simp; omega
  have h2 : a + q < s.size := by omega
  have e1 := get_at (s.extract a b) q h1
  have e2 := get_at s (a + q) h2
  simp only [Nat.add_zero] at e1 e2
  rw [e1, e2]
  simp [ByteArray.getElem_extract]
theorem wd_cut (s : ByteArray) (a b q : Nat) (hb : b ≤ s.size) (h : a + q + wd s (a + q) ≤ b) : wd (s.extract a b) q = wd s (a + q) := by
  have hp := wd_pos s (a + q)
  have hat : ∀ k, a + q + k < b → atB (s.extract a b) (q + k) = atB s (a + q + k) := fun k hk => by
    unfold atB; rw [get_cut s a b (q + k) hb (by omega), Nat.add_assoc]
  have hsz : (s.extract a b).size = b - a := by simp; omega
  have hct : ∀ k, cont (s.extract a b) (q + k) = true → cont s (a + q + k) = true ∧ atB (s.extract a b) (q + k) = atB s (a + q + k) := fun k hk => by
    simp [cont, hsz] at hk
    have e := hat k (by omega)
    refine ⟨?_, e⟩
    rw [e] at hk
    simp [cont]
    exact ⟨by omega, hk.2⟩
  have hcb : ∀ k, a + q + k < b → cont s (a + q + k) = true → cont (s.extract a b) (q + k) = true := fun k hk hc => by
    simp [cont, hsz] at hc ⊢
    rw [hat k hk]
    exact ⟨by omega, hc.2⟩
  have h0 := hat 0 (by omega)
  simp only [Nat.add_zero] at h0
  rw [wd_eq] at h ⊢
  rw [wd_eq s (a + q), h0]
  have hc := wF_cont (atB s (a + q)) (atB s (a + q + 1)) (atB s (a + q + 2)) (atB s (a + q + 3)) (cont s (a + q + 1)) (cont s (a + q + 2)) (cont s (a + q + 3))
  refine wF_cut _ _ _ _ _ _ _ _ _ _ _ _ _ (hct 1) (hct 2) (hct 3) (fun k => hcb 1 ?_ (hc.1 k)) (fun k => hcb 2 ?_ (hc.2.1 k)) (fun k => hcb 3 ?_ (hc.2.2.1 k))
  all_goals omega

theorem bd_lt (s : ByteArray) (k m : Nat) (h : k < m) : bd s k < bd s m := by
  induction m with
  | zero => omega
  | succ m ih =>
    have := wd_pos s (bd s m)
    by_cases e : k = m
    · subst e; show bd s k < bd s k + _; omega
    · have := ih (by omega); show bd s k < bd s m + _; omega
theorem bd_le (s : ByteArray) (k m : Nat) (h : k ≤ m) : bd s k ≤ bd s m := by
  by_cases e : k = m
  · subst e; exact Nat.le_refl _
  · exact Nat.le_of_lt (bd_lt s k m (by omega))
theorem bd_inj (s : ByteArray) (k m : Nat) (h : bd s k = bd s m) : k = m := by
  by_cases a : k < m
  · have := bd_lt s k m a; omega
  · by_cases b : m < k
    · have := bd_lt s m k b; omega
    · omega
theorem bd_ge (s : ByteArray) (k : Nat) : k ≤ bd s k := by
  induction k with
  | zero => exact Nat.zero_le _
  | succ k ih => have := wd_pos s (bd s k); show k + 1 ≤ bd s k + _; omega
theorem bd_cut (s : ByteArray) (lo hi : Nat) (hb : bd s hi ≤ s.size) : ∀ k, lo + k ≤ hi → bd (s.extract (bd s lo) (bd s hi)) k = bd s (lo + k) - bd s lo
  | 0, _ => by show 0 = _; simp
  | k + 1, h => by
    have ih := bd_cut s lo hi hb k (by omega)
    have m1 := bd_le s lo (lo + k) (by omega)
    have m2 : bd s (lo + k + 1) ≤ bd s hi := bd_le s _ _ (by omega)
    have e : bd s lo + (bd s (lo + k) - bd s lo) = bd s (lo + k) := by omega
    have hw := wd_cut s (bd s lo) (bd s hi) (bd s (lo + k) - bd s lo) hb (by rw [e]; exact m2)
    show bd (s.extract (bd s lo) (bd s hi)) k + wd (s.extract (bd s lo) (bd s hi)) (bd (s.extract (bd s lo) (bd s hi)) k) = bd s (lo + k) + wd s (bd s (lo + k)) - bd s lo
    rw [ih, hw, e]
    omega
/-- the piece [lo, hi) has hi - lo code points -/
theorem cnt_cut (s : ByteArray) (lo hi : Nat) (hb : bd s hi ≤ s.size) (h : lo ≤ hi) : bd (s.extract (bd s lo) (bd s hi)) (hi - lo) = (s.extract (bd s lo) (bd s hi)).size := by
  rw [bd_cut s lo hi hb (hi - lo) (by omega)]
  have e : lo + (hi - lo) = hi := by omega
  rw [e]
  simp
  omega
theorem join_cut (s : ByteArray) (a b c : Nat) (h1 : a ≤ b) (h2 : b ≤ c) (h3 : c ≤ s.size) : (s.extract a b ++ s.extract b c) = s.extract a c := by
  rcases s with ⟨⟨l⟩⟩
  simp [ByteArray.size] at h3
  apply ByteArray.ext
  simp [h1, h2]
end Go.Proofs.Qxb6619339a
