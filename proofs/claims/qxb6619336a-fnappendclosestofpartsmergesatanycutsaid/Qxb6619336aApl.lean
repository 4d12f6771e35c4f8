import Derived.Test.Qxb6619336aKey
import Derived.Test.Qxb6619336aIns
namespace Go.Proofs.Qxb6619336a
open Go.RowKit

/-- the state of appendClosest's loop after k nodes: a, ds: the slice closest now; L: what has been appended; W1: the world behind the target's box -/
structure Ap (W1 : World) (a0 : Option Addr) (cl : List Pr) (m : Nat) (key : Pr → Nat) (qs : List Pr) (w : World) (k : Nat) (a : Option Addr) (ds L : List Pr) : Prop where
  at_ : At w a (cl.length + L.length) ds
  tk : ds.take (cl.length + L.length) = cl ++ L
  own : a = a0 ∨ ∃ g, a = some ⟨g, 0, none⟩ ∧ W1.heap.size ≤ g
  fr : Fr (ownOf a0) W1.heap.size W1 w
  top : L = Top.top key m (qs.take k)

theorem At.lt {w : World} {a : Option Addr} {n : Nat} {ds : List Pr} (h : At w a n ds) : ∀ g, a = some ⟨g, 0, none⟩ → g < w.heap.size := by
  intro g hg
  rcases h with ⟨rfl, _⟩ | ⟨g', rfl, hr, _⟩
  · cases hg
  · injection hg with hg; injection hg with hg; subst hg; exact hr.lt
theorem At.of {w w' : World} {a : Option Addr} {n : Nat} {ds : List Pr} (h : At w a n ds) (hb : Below w.heap.size w w') : At w' a n ds := by
  rcases h with h | ⟨g, hg, hr, hn⟩
  · exact .inl h
  · exact .inr ⟨g, hg, hr.of (hb.block g hr.lt), hn⟩
theorem At.le {w : World} {a : Option Addr} {n : Nat} {ds : List Pr} (h : At w a n ds) : n ≤ ds.length := by
  rcases h with ⟨_, rfl, rfl⟩ | ⟨_, _, _, h⟩
  · simp
  · exact h
theorem Fr.from_own {W1 w w' : World} {a0 a : Option Addr} {S : Nat} (hf : Fr (ownOf a) S w w') (ho : a = a0 ∨ ∃ g, a = some ⟨g, 0, none⟩ ∧ W1.heap.size ≤ g) (hS : W1.heap.size ≤ S) : Fr (ownOf a0) W1.heap.size w w' := by
  rcases ho with rfl | ⟨g, rfl, hg⟩
  · exact hf.mono hS
  · exact ⟨hf.os, hf.tape, hf.output, hf.size, fun k hk _ => hf.block k (by omega) (fun e => by injection e with e; subst e; exact absurd hk (by simp; omega))⟩
/-- the part of closest that is searched, as a list that is read -/
theorem Ap.sub {w : World} {g : Nat} {cl L ds : List Pr} (hr : Row w g ds) (htk : ds.take (cl.length + L.length) = cl ++ L) : Ps w (some ⟨g, cl.length * 5, none⟩) L := by
  by_cases h : L = []
  · exact .inl h
  · refine .inr ⟨g, cl.length * 5, rfl, hr.lt, fun i p hp => ?_⟩
    have hi : i < L.length := (List.getElem?_eq_some_iff.1 hp).1
    have e : ds[cl.length + i]? = some p := by
      have : (ds.take (cl.length + L.length))[cl.length + i]? = some p := by
        rw [htk, List.getElem?_append_right (by omega), Nat.add_sub_cancel_left, hp]
      rwa [List.getElem?_take, if_pos (by omega)] at this
    obtain ⟨hlt, e'⟩ := List.getElem?_eq_some_iff.1 e
    have := hr.range (cl.length + i) hlt
    rw [e', Nat.add_mul] at this
    exact this
theorem top_next (key : Pr → Nat) (m : Nat) (qs : List Pr) (k : Nat) (hk : k < qs.length) : Top.top key m (qs.take (k + 1)) = (Top.ins key qs[k] (Top.top key m (qs.take k))).take m := by
  rw [List.take_succ_eq_append_getElem hk, Top.top_snoc]

theorem ins_by_search {ta tb tc : Int} (ht : Tok ta tb tc) {c : Pr} (hc : c.ok) {L : List Pr} (hL : ∀ q ∈ L, q.ok) (i : Nat) (hi : i ≤ L.length)
    (hlo : ∀ q (hq : q < L.length), q < i → cm ta tb tc (bits .xor .u64 c.a ta) (bits .xor .u64 c.b tb) (bits .xor .u64 c.c tc) L[q] < 0)
    (hhi : ∀ q (hq : q < L.length), i ≤ q → 0 ≤ cm ta tb tc (bits .xor .u64 c.a ta) (bits .xor .u64 c.b tb) (bits .xor .u64 c.c tc) L[q]) :
    Top.ins (dist ta tb tc) c L = L.take i ++ c :: L.drop i := by
  refine Top.ins_at _ c L i hi (fun q hq h => (cm_lt ht (hL _ (List.getElem_mem hq)) hc).1 (hlo q hq h)) (fun q hq h h' => ?_)
  have := (cm_lt ht (hL _ (List.getElem_mem hq)) hc).2 h'
  exact absurd (hhi q hq h) (Int.not_le.2 this)

theorem take_cl (cl L : List Pr) (i : Nat) : (cl ++ L).take (cl.length + i) = cl ++ L.take i := by
  rw [List.take_length_add_append]
theorem drop_cl (cl L : List Pr) (i : Nat) : (cl ++ L).drop (cl.length + i) = L.drop i := by
  rw [List.drop_length_add_append]
/-- the row behind an insertion -/
theorem ins_take {cl L ds ds' : List Pr} {c : Pr} {N P i : Nat} (htk : ds.take N = cl ++ L) (hP : P = cl.length + i)
    (h : ds'.take (N + 1) = (ds.take N).take P ++ c :: (ds.take N).drop P) : ds'.take (N + 1) = cl ++ (L.take i ++ c :: L.drop i) := by
  rw [h, htk, hP, take_cl, drop_cl, List.append_assoc]
/-- the row behind a shift and a store -/
theorem shift_take {cl L ds : List Pr} (c : Pr) {N P i : Nat} (htk : ds.take N = cl ++ L) (hN : N = cl.length + L.length) (hP : P = cl.length + i) (hi : i < L.length) (hle : N ≤ ds.length) :
    ((lay ds (P + 1) ((ds.drop P).take (N - P - 1))).set P c).take N = cl ++ (L.take i ++ c :: (L.drop i).take (L.length - i - 1)) := by
  have hX : ((ds.drop P).take (N - P - 1)).length = N - P - 1 := by simp; omega
  have e1 : lay ds (P + 1) ((ds.drop P).take (N - P - 1)) = ds.take (P + 1) ++ ((ds.drop P).take (N - P - 1) ++ ds.drop N) := by
    unfold lay; rw [hX, show P + 1 + (N - P - 1) = N by omega]
  have e2 : (ds.drop P).take (N - P - 1) = (L.drop i).take (L.length - i - 1) := by
    have h1 : (ds.take N).drop P = L.drop i := by rw [htk, hP, drop_cl]
    rw [← h1, List.drop_take, List.take_take, Nat.min_eq_left (by omega)]
    congr 1; omega
  have e3 : ds.take P = cl ++ L.take i := by
    have h1 : (ds.take N).take P = cl ++ L.take i := by rw [htk, hP, take_cl]
    rwa [List.take_take, Nat.min_eq_left (by omega)] at h1
  have e4 : (ds.take (P + 1)).set P c = ds.take P ++ [c] := by
    rw [List.take_succ_eq_append_getElem (by omega), List.set_append_right _ _ (by simp; omega)]
    simp [Nat.min_eq_left (show P ≤ ds.length by omega)]
  have hPl : P < (ds.take (P + 1)).length := by simp; omega
  rw [e1, List.set_append_left _ _ hPl, e4, ← List.append_assoc, List.take_left' (by simp; omega), e2, e3]
  simp
theorem ins_cut (L : List Pr) (c : Pr) (i : Nat) (hi : i < L.length) : (L.take i ++ c :: L.drop i).take L.length = L.take i ++ c :: (L.drop i).take (L.length - i - 1) := by
  obtain ⟨d, hd⟩ : ∃ d, L.length = i + (d + 1) := ⟨L.length - i - 1, by omega⟩
  have h1 : (L.take i).length = i := by simp; omega
  rw [hd, List.take_append, h1, List.take_of_length_le (by omega), show i + (d + 1) - i = d + 1 by omega, List.take_succ_cons, show d + 1 - 1 = d by omega]
theorem ins_none (L : List Pr) (c : Pr) : (L.take L.length ++ c :: L.drop L.length).take L.length = L := by
  simp
end Go.Proofs.Qxb6619336a
