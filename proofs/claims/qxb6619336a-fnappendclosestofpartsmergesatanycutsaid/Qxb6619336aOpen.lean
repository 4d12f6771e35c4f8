import Derived.Test.Qxb6619336aMem
import Derived.ProofKit
import Derived.OpenShut
import Derived.ShutString
import Derived.ChangeOld
import Derived.Deep.Slices
namespace Go.Proofs.Qxb6619336a
open Go.ChangeShapes Go.WideShapes Go.ChangeAt Go.RowKit Go.Deep

/-- the three words fit their kind -/
def Pr.ok (p : Pr) : Prop := (0 ≤ p.a ∧ p.a ≤ 18446744073709551615) ∧ (0 ≤ p.b ∧ p.b ≤ 18446744073709551615) ∧ (0 ≤ p.c ∧ p.c ≤ 18446744073709551615)
theorem u64_bounds {n : Int} (h : (Lit.int .u64 n).wf = true) : 0 ≤ n ∧ n ≤ 18446744073709551615 := by
  simp [Lit.wf, IntKind.min, IntKind.max, IntKind.signed, IntKind.bits] at h
  omega
theorem cells9 : Try.prog.cellsOf 9 = 1 := by kernel_rfl
theorem cells29 : Try.prog.cellsOf 29 = 1 := by kernel_rfl
theorem cells37 : Try.prog.cellsOf 37 = 5 := by kernel_rfl

theorem list_of {Q : Nat → Pr → Prop} : ∀ n : Nat, (∀ i, i < n → ∃ p, Q i p) → ∃ ps : List Pr, ps.length = n ∧ ∀ i p, ps[i]? = some p → Q i p
  | 0, _ => ⟨[], rfl, by simp⟩
  | n + 1, h => by
    obtain ⟨ps, hl, hp⟩ := list_of n (fun i hi => h i (by omega))
    obtain ⟨q, hq⟩ := h n (by omega)
    refine ⟨ps ++ [q], by simp [hl], fun i p hi => ?_⟩
    by_cases e : i < ps.length
    · rw [List.getElem?_append_left e] at hi; exact hp i p hi
    · rw [List.getElem?_append_right (by omega)] at hi
      have hi0 : i - ps.length = 0 := by
        have := (List.getElem?_eq_some_iff.1 hi).1
        simp at this; omega
      rw [hi0] at hi
      simp at hi
      subst hi
      have : i = n := by omega
      rw [this]; exact hq

section
variable {H : Type} {enc : TypeId × Value → H} {w : World} {base : Nat} {spare : Nat → Bool} {held : Bool}
theorem peer_of {n : Nat} {cs : List Value} {y : DataW H × List MemPlace} (h : DataW.trod enc Try.prog w base spare held n 37 cs = some y) : ∃ p : Pr, cs = p.cells ∧ p.ok := by
  obtain ⟨xs, m, _, _, hl, hlen, hf⟩ := DataW.trod_struct Try.underlying37 h
  rw [cells37] at hl
  match cs, hl, xs, hlen with
  | [v0, v1, v2, v3, v4], _, [y0, y1, y2, y3, y4], _ =>
    have g0 : DataW.trod enc Try.prog w base spare held m 29 (([v0, v1, v2, v3, v4].drop 0).take (Try.prog.cellsOf 29)) = some y0 := hf 0 _ rfl
    have g1 : DataW.trod enc Try.prog w base spare held m 29 (([v0, v1, v2, v3, v4].drop 1).take (Try.prog.cellsOf 29)) = some y1 := hf 1 _ rfl
    have g2 : DataW.trod enc Try.prog w base spare held m 29 (([v0, v1, v2, v3, v4].drop 2).take (Try.prog.cellsOf 29)) = some y2 := hf 2 _ rfl
    have g3 : DataW.trod enc Try.prog w base spare held m 9 (([v0, v1, v2, v3, v4].drop 3).take (Try.prog.cellsOf 9)) = some y3 := hf 3 _ rfl
    have g4 : DataW.trod enc Try.prog w base spare held m 9 (([v0, v1, v2, v3, v4].drop 4).take (Try.prog.cellsOf 9)) = some y4 := hf 4 _ rfl
    rw [cells29] at g0 g1 g2
    rw [cells9] at g3 g4
    obtain ⟨a, e0, _, w0⟩ := DataW.trod_int Try.underlying29 g0
    obtain ⟨b, e1, _, w1⟩ := DataW.trod_int Try.underlying29 g1
    obtain ⟨c, e2, _, w2⟩ := DataW.trod_int Try.underlying29 g2
    obtain ⟨nm, e3, _, _⟩ := DataW.trod_string Try.underlying9 g3
    obtain ⟨ad, e4, _, _⟩ := DataW.trod_string Try.underlying9 g4
    simp at e0 e1 e2 e3 e4
    subst e0 e1 e2 e3 e4
    exact ⟨⟨a, b, c, nm, ad⟩, rfl, u64_bounds w0, u64_bounds w1, u64_bounds w2⟩

/-- a slice of peers that came in -/
theorem open_peers {fuel : Nat} {a : Option Addr} {len cap : Nat} {x : DataW H × List MemPlace} (h : DataW.trod enc Try.prog w 0 (fun _ => true) true fuel 22 [.slice a len cap] = some x) :
    ∃ ps : List Pr, ps.length = len ∧ len ≤ maxLen ∧ Ps w a ps ∧ ∀ p ∈ ps, p.ok := by
  rcases open_slice Try.underlying22 h with ⟨hcs, _⟩ | ⟨ad, l, c, m, n, D, Pl, hcs, _, hl, hm, hmm, _, hx⟩
  · simp at hcs
    obtain ⟨rfl, rfl, rfl⟩ := hcs
    exact ⟨[], rfl, Nat.zero_le _, .inl rfl, by simp⟩
  · simp at hcs
    obtain ⟨rfl, rfl, rfl⟩ := hcs
    rw [cells37] at hx
    simp only [if_true] at hmm
    have hmx : ∀ i, i < len → ∃ p : Pr, p.ok ∧ ∀ j v, p.cells[j]? = some v → w.cell? ((ad.add (i * 5)).add j) = some v := fun i hi => by
      obtain ⟨cs', h1, h2⟩ := hx i (by omega)
      obtain ⟨p, rfl, hp⟩ := peer_of h2
      obtain ⟨_, _, h4⟩ := World.cells?_some h1
      refine ⟨p, hp, fun j v hv => ?_⟩
      have hj : j < 5 := by have := (List.getElem?_eq_some_iff.1 hv).1; rwa [cells_length] at this
      rw [h4 j hj, hv]
    obtain ⟨ps, hps, hf⟩ := list_of len hmx
    refine ⟨ps, hps, by omega, ?_, fun p hp => ?_⟩
    · by_cases h0 : len = 0
      · left; exact List.eq_nil_of_length_eq_zero (by omega)
      · right
        have hc := (hf 0 ps[0] (List.getElem?_eq_getElem (by omega))).2 0 _ rfl
        obtain ⟨b, off, spot⟩ := ad
        have hspot : spot = none := by simpa [Addr.add] using World.cell?_spot hc
        subst hspot
        refine ⟨b, off, rfl, World.block_lt_of_cell? w _ (by simpa [Addr.add] using hc), fun i p hp j v hv => ?_⟩
        have := (hf i p hp).2 j v hv
        rwa [Addr.add_mid, Addr.add_mid] at this
    · obtain ⟨i, hi, rfl⟩ := List.mem_iff_getElem.1 hp
      exact (hf i _ (List.getElem?_eq_getElem hi)).1
end
end Go.Proofs.Qxb6619336a
