import Derived.Test.Qxb6619336aOps
import Derived.Test.Qxb6619336aZadd
import Derived.Lib.AppendZerosOnto
import Derived.Lib.Overlaps
namespace Go.Proofs.Qxb6619336a
open Go.RowKit

theorem zeros_cells (n : Nat) : Builtin.zeroCells zeroV.cells n = (flat (List.replicate n Pr.zero)).toArray := by
  rw [zeros_flat]; rfl

/-! ### append of one contact, with room or without -/
def ownOf (a : Option Addr) : Option Nat := a.map (·.block)
/-- the slice at a holds n contacts of the row ds; or it is nil -/
def At (w : World) (a : Option Addr) (n : Nat) (ds : List Pr) : Prop := (a = none ∧ n = 0 ∧ ds = []) ∨ ∃ g, a = some ⟨g, 0, none⟩ ∧ Row w g ds ∧ n ≤ ds.length
theorem run_append_any (w : World) (ty : TypeId) (a : Option Addr) (n : Nat) (ds : List Pr) (p : Pr) (ad : Addr) (c : Nat) (hr : At w a n ds) (hn : n ≤ 1000000)
    (hnews : ∀ j u, p.cells[j]? = some u → w.cell? (ad.add j) = some u) :
    ∃ g' ds' w', (Builtin.append_ #[25, 25] ty #[.slice a n ds.length, .slice (some ad) 1 c]).run Try.prog w = .ok (.slice (some ⟨g', 0, none⟩) (n + 1) ds'.length) w' ∧
      Row w' g' ds' ∧ ds'.take (n + 1) = ds.take n ++ [p] ∧ n + 1 ≤ ds'.length ∧ Fr (ownOf a) w.heap.size w w' ∧ (a = some ⟨g', 0, none⟩ ∨ w.heap.size ≤ g') := by
  obtain ⟨i, hi, hz, hs, hb⟩ := info34
  have hl : p.cells.length = 1 * i.size := by rw [hs, cells_length]
  rcases hr with ⟨rfl, rfl, rfl⟩ | ⟨g, rfl, hr, hle⟩
  · have hrun := run_append_nil (P := Try.prog) w 25 ty 34 i zeroV Try.underlying25 hi hz ad 1 c p.cells hl hnews (by omega) (by omega) (by rw [hb]; omega)
    have hge := grownCap_ge w 1 0 34
    obtain ⟨r, hrr⟩ : ∃ r, grownCap w 1 0 34 = 1 + r := ⟨grownCap w 1 0 34 - 1, by omega⟩
    have e : p.cells.toArray ++ Builtin.zeroCells zeroV.cells (1 + r - 1) = (flat (p :: List.replicate r Pr.zero)).toArray := by
      rw [zeros_cells, flat_cons, Nat.add_sub_cancel_left]; simp
    have hlen : 1 + r = (p :: List.replicate r Pr.zero).length := by simp; omega
    rw [hrr, e, hlen] at hrun
    exact ⟨w.heap.size, p :: List.replicate r Pr.zero, _, hrun, Row.made w.drew _, by simp, by simp, (Fr.refl _ _ w).drew.alloc (Nat.le_refl _) _, .inr (Nat.le_refl _)⟩
  · by_cases hlt : n < ds.length
    · refine ⟨g, ds.set n p, _, ?_, hr.setRow _, ?_, by simp; omega, Fr.setRow _ _ _ _, .inl rfl⟩
      · rw [List.length_set]
        exact run_append5 w ty g n ds p ad c hr hlt hnews
      · rw [List.set_eq_take_append_cons_drop, if_pos hlt, List.take_append]
        simp [Nat.min_eq_left (Nat.le_of_lt hlt)]
        rw [List.take_of_length_le (by simp; omega)]
    · have e : n = ds.length := by omega
      subst e
      have hrun := run_append_grow (P := Try.prog) w 25 ty 34 i zeroV Try.underlying25 hi hz ⟨g, 0, none⟩ ds.length ds.length (flat ds) (by rw [flat_length, hs]) (by have := hr.cells 0 ds.length; simpa using this) ad 1 c p.cells hl hnews (by omega) (by omega) (growslice_fits (by omega) (by rw [hb]; omega))
      have hge := grownCap_ge w (ds.length + 1) ds.length 34
      obtain ⟨r, hrr⟩ : ∃ r, grownCap w (ds.length + 1) ds.length 34 = ds.length + 1 + r := ⟨grownCap w (ds.length + 1) ds.length 34 - (ds.length + 1), by omega⟩
      have e : (flat ds).toArray ++ p.cells.toArray ++ Builtin.zeroCells zeroV.cells (ds.length + 1 + r - (ds.length + 1)) = (flat (ds ++ (p :: List.replicate r Pr.zero))).toArray := by
        rw [zeros_cells, flat_append, flat_cons, Nat.add_sub_cancel_left]; simp
      have hlen : ds.length + 1 + r = (ds ++ (p :: List.replicate r Pr.zero)).length := by simp; omega
      rw [hrr, e, hlen] at hrun
      exact ⟨w.heap.size, ds ++ (p :: List.replicate r Pr.zero), _, hrun, Row.made w.drew _, by rw [List.take_append]; simp; exact List.take_of_length_le (by omega), by simp, (Fr.refl _ _ w).drew.alloc (Nat.le_refl _) _, .inr (Nat.le_refl _)⟩
theorem wpList_append_any {ops : Array Oper} {rest : List Oper} {o : Oper} {a : Act} {w : World} {Q : Exit → Act → World → Prop} (hgd : o.guard = none) (s x : Operand)
    (ho : o.op = .call { callee := .builtin .append, args := #[s, x], argTypes := #[25, 25] }) (av : Option Addr) (n N : Nat) (ds : List Pr) (p : Pr) (ad : Addr) (c : Nat)
    (hs : a.eval s = .slice av n N) (hx : a.eval x = .slice (some ad) 1 c) (hN : N = ds.length) (hr : At w av n ds) (hn : n ≤ 1000000)
    (hnews : ∀ j u, p.cells[j]? = some u → w.cell? (ad.add j) = some u)
    (h : ∀ g' ds' w', Row w' g' ds' → ds'.take (n + 1) = ds.take n ++ [p] → n + 1 ≤ ds'.length → Fr (ownOf av) w.heap.size w w' → (av = some ⟨g', 0, none⟩ ∨ w.heap.size ≤ g') → wpList Try.prog ops Q rest (a.put o.dst (.slice (some ⟨g', 0, none⟩) (n + 1) ds'.length)) w') :
    wpList Try.prog ops Q (o :: rest) a w := by
  subst hN
  obtain ⟨g', ds', w', hrun, q1, q2, q3, q4, q5⟩ := run_append_any w o.type av n ds p ad c hr hn hnews
  exact Lib.wpList_append_run w hgd s x 25 25 ho _ _ hs hx _ _ hrun (h g' ds' w' q1 q2 q3 q4 q5)

/-! ### append of k zero contacts where there is no room -/
theorem wpList_append_zeros {ops : Array Oper} {rest : List Oper} {o : Oper} {a : Act} {w : World} {Q : Exit → Act → World → Prop} (hgd : o.guard = none) (s x : Operand)
    (ho : o.op = .call { callee := .builtin .append, args := #[s, x], argTypes := #[25, 3] }) (g i N k : Nat) (ds : List Pr)
    (hs : a.eval s = .slice (some ⟨g, 0, none⟩) i N) (hx : a.eval x = .int .i64 (k : Int)) (hN : N = ds.length) (hr : Row w g ds) (hi : i ≤ ds.length) (hk : ds.length < i + k) (hb : i + k ≤ 1000000)
    (h : ∀ r w', Row w' w.heap.size (ds.take i ++ List.replicate (k + r) Pr.zero) → Below w.heap.size w w' → w.heap.size < w'.heap.size → wpList Try.prog ops Q rest (a.put o.dst (.slice (some ⟨w.heap.size, 0, none⟩) (i + k) (i + k + r))) w') :
    wpList Try.prog ops Q (o :: rest) a w := by
  subst hN
  obtain ⟨inf, hinf, hz, hsz, hby⟩ := info34
  have hold : (Builtin.firstCells inf.size i (.slice (some ⟨g, 0, none⟩) i ds.length)).run Try.prog w.drew = .ok (flat (ds.take i)).toArray w.drew :=
    run_firstCells_some (P := Try.prog) w.drew inf.size i ⟨g, 0, none⟩ i ds.length (flat (ds.take i)) (by rw [flat_length, hsz, List.length_take, Nat.min_eq_left hi]) (by have := (hr.drew).cells 0 i; simpa using this)
  have hrun := Lib.run_append_grow_zeros (P := Try.prog) w 25 3 o.type 34 inf zeroV .i64 .i64 Try.underlying25 Try.underlying3 hinf hz (some ⟨g, 0, none⟩) i ds.length (flat (ds.take i)) hold k (by omega) (by omega) hk (by omega) (by rw [hby]; omega) (growslice_fits (by omega) (by rw [hby]; omega))
  have hge := grownCap_ge w (i + k) ds.length 34
  obtain ⟨r, hrr⟩ : ∃ r, grownCap w (i + k) ds.length 34 = i + k + r := ⟨grownCap w (i + k) ds.length 34 - (i + k), by omega⟩
  rw [hrr] at hrun
  have e : (flat (ds.take i)).toArray ++ Builtin.zeroCells zeroV.cells k ++ Builtin.zeroCells zeroV.cells (i + k + r - (i + k)) = (flat (ds.take i ++ List.replicate (k + r) Pr.zero)).toArray := by
    rw [zeros_cells, zeros_cells, Nat.add_sub_cancel_left, flat_append, ← List.replicate_append_replicate, flat_append]; simp
  rw [e] at hrun
  refine Lib.wpList_append_run w hgd s x 25 3 ho _ _ hs hx _ _ hrun (h r _ ?_ ?_ ?_)
  · exact Row.made w.drew _
  · exact ((Below.refl _ _).drew).alloc (Nat.le_refl _) _
  · show w.heap.size < (w.heap.push _).size
    simp

/-! ### copy, at a plain region and at one that draws -/
theorem wpList_copy5 {ops : Array Oper} {rest : List Oper} {o : Oper} {a : Act} {w : World} {Q : Exit → Act → World → Prop} (hgd : o.guard = none) (d s : Operand)
    (ho : o.op = .call { callee := .builtin .copy, args := #[d, s], argTypes := #[25, 25] }) (g i off dLen dCap : Nat) (ds : List Pr) (ad : Addr) (sLen sCap : Nat) (qs : List Pr)
    (hd : a.eval d = .slice (some ⟨g, off, none⟩) dLen dCap) (hs : a.eval s = .slice (some ad) sLen sCap) (hoff : off = i * 5) (hr : Row w g ds) (hq : qs.length = Nat.min sLen dLen) (hfit : i + qs.length ≤ ds.length)
    (hsrc : ∀ j u, (flat qs)[j]? = some u → w.cell? (ad.add j) = some u)
    (h : ∀ w1, Row w1 g (lay ds i qs) → Fr (some g) w.heap.size w w1 → w1.heap.size = w.heap.size → wpList Try.prog ops Q rest (a.put o.dst (goInt qs.length)) w1) : wpList Try.prog ops Q (o :: rest) a w := by
  refine wpList_plain hgd fun K hK => ?_
  subst hoff
  have hrun := run_copy5 w o.type g i dLen dCap ds ad sLen sCap qs hr hq hfit hsrc
  unfold Oper.wp
  simp [execOp, ho, resolve, invoke, builtin, hd, hs, hrun, Result.andThen]
  exact hK _ _ (h _ (hr.setRow _) (Fr.setRow _ _ _ _) (size_setRow _ _ _))
theorem step_copy5 {ops : Array Oper} {o : Oper} {a : Act} {w : World} {K : Act → World → Prop} {Q : Exit → Act → World → Prop} {E : Prop} (hgd : o.guard = none) (d s : Operand)
    (ho : o.op = .call { callee := .builtin .copy, args := #[d, s], argTypes := #[25, 25] }) (g i off dLen dCap : Nat) (ds : List Pr) (ad : Addr) (sLen sCap : Nat) (qs : List Pr)
    (hd : a.eval d = .slice (some ⟨g, off, none⟩) dLen dCap) (hs : a.eval s = .slice (some ad) sLen sCap) (hoff : off = i * 5) (hr : Row w g ds) (hq : qs.length = Nat.min sLen dLen) (hfit : i + qs.length ≤ ds.length)
    (hsrc : ∀ j u, (flat qs)[j]? = some u → w.cell? (ad.add j) = some u)
    (h : ∀ w1, Row w1 g (lay ds i qs) → Fr (some g) w.heap.size w w1 → w1.heap.size = w.heap.size → K (a.put o.dst (goInt qs.length)) w1) :
    if Region.wanted o (yielded ops a.tmps) = true then Oper.wp Try.prog o a w K Q else E := by
  have hw : Region.wanted o (yielded ops a.tmps) = true := by simp [Region.wanted, hgd]
  rw [if_pos hw]
  subst hoff
  have hrun := run_copy5 w o.type g i dLen dCap ds ad sLen sCap qs hr hq hfit hsrc
  unfold Oper.wp
  simp [execOp, ho, resolve, invoke, builtin, hd, hs, hrun, Result.andThen]
  exact h _ (hr.setRow _) (Fr.setRow _ _ _ _) (size_setRow _ _ _)
end Go.Proofs.Qxb6619336a
