import Derived.Test.Qxb6619336aCts
import Derived.Laws.CopyOwn
namespace Go.Proofs.Qxb6619336a
open Go.RowKit

theorem Row.setRow {w : World} {g : Nat} {ds : List Pr} (h : Row w g ds) (es : List Pr) : Row (w.setRow g (flat es).toArray) g es := setRow_heap w g _ _ 34 (0, 0) h
theorem Fr.setRow (w : World) (g : Nat) (cs : Array Value) (B : Nat) : Fr (some g) B w (w.setRow g cs) :=
  ⟨rfl, rfl, rfl, by simp [World.setRow], fun k _ hg => setRow_other w g k cs (fun e => hg (by rw [e]))⟩
theorem size_setRow (w : World) (g : Nat) (cs : Array Value) : (w.setRow g cs).heap.size = w.heap.size := by simp [World.setRow]

/-! ### append of one contact where there is room -/
theorem run_append5 (w : World) (ty : TypeId) (g n : Nat) (ds : List Pr) (p : Pr) (ad : Addr) (c : Nat) (hr : Row w g ds) (hn : n < ds.length)
    (hnews : ∀ j u, p.cells[j]? = some u → w.cell? (ad.add j) = some u) :
    (Builtin.append_ #[25, 25] ty #[.slice (some ⟨g, 0, none⟩) n ds.length, .slice (some ad) 1 c]).run Try.prog w =
      .ok (.slice (some ⟨g, 0, none⟩) (n + 1) ds.length) (w.setRow g (flat (ds.set n p)).toArray) := by
  obtain ⟨i, hi, hz, hs, hb⟩ := info34
  have hl : p.cells.length = 1 * i.size := by rw [hs, cells_length]
  rw [run_append_room (P := Try.prog) w 25 ty 34 i Try.underlying25 hi g n ds.length (flat ds).toArray hr ad 1 c p.cells hl hnews
    (fun u hu => flat_one [p] u (by simpa [flat] using hu)) (by omega) (by rw [hs, cells_length, List.size_toArray, flat_length]; omega)]
  rw [hs, cells_length, flat_set ds n p hn, List.append_assoc]
theorem step_append5 {ops : Array Oper} {o : Oper} {a : Act} {w : World} {K : Act → World → Prop} {Q : Exit → Act → World → Prop} {E : Prop} (hgd : o.guard = none) (s x : Operand)
    (ho : o.op = .call { callee := .builtin .append, args := #[s, x], argTypes := #[25, 25] }) (g n N : Nat) (ds : List Pr) (p : Pr) (ad : Addr) (c : Nat)
    (hs : a.eval s = .slice (some ⟨g, 0, none⟩) n N) (hx : a.eval x = .slice (some ad) 1 c) (hN : N = ds.length) (hr : Row w g ds) (hn : n < ds.length)
    (hnews : ∀ j u, p.cells[j]? = some u → w.cell? (ad.add j) = some u)
    (h : ∀ w1, Row w1 g (ds.set n p) → Fr (some g) w.heap.size w w1 → w1.heap.size = w.heap.size → K (a.put o.dst (.slice (some ⟨g, 0, none⟩) (n + 1) N)) w1) :
    if Region.wanted o (yielded ops a.tmps) = true then Oper.wp Try.prog o a w K Q else E := by
  have hw : Region.wanted o (yielded ops a.tmps) = true := by simp [Region.wanted, hgd]
  rw [if_pos hw]
  subst hN
  have hrun := run_append5 w o.type g n ds p ad c hr hn hnews
  unfold Oper.wp
  simp [execOp, ho, resolve, invoke, builtin, hs, hx, hrun, Result.andThen]
  exact h _ (hr.setRow _) (Fr.setRow _ _ _ _) (size_setRow _ _ _)
theorem wpList_append5 {ops : Array Oper} {rest : List Oper} {o : Oper} {a : Act} {w : World} {Q : Exit → Act → World → Prop} (hgd : o.guard = none) (s x : Operand)
    (ho : o.op = .call { callee := .builtin .append, args := #[s, x], argTypes := #[25, 25] }) (g n N : Nat) (ds : List Pr) (p : Pr) (ad : Addr) (c : Nat)
    (hs : a.eval s = .slice (some ⟨g, 0, none⟩) n N) (hx : a.eval x = .slice (some ad) 1 c) (hN : N = ds.length) (hr : Row w g ds) (hn : n < ds.length)
    (hnews : ∀ j u, p.cells[j]? = some u → w.cell? (ad.add j) = some u)
    (h : ∀ w1, Row w1 g (ds.set n p) → Fr (some g) w.heap.size w w1 → w1.heap.size = w.heap.size → wpList Try.prog ops Q rest (a.put o.dst (.slice (some ⟨g, 0, none⟩) (n + 1) N)) w1) :
    wpList Try.prog ops Q (o :: rest) a w := by
  refine wpList_plain hgd fun K hK => ?_
  subst hN
  have hrun := run_append5 w o.type g n ds p ad c hr hn hnews
  unfold Oper.wp
  simp [execOp, ho, resolve, invoke, builtin, hs, hx, hrun, Result.andThen]
  exact hK _ _ (h _ (hr.setRow _) (Fr.setRow _ _ _ _) (size_setRow _ _ _))

/-! ### copy between rows of contacts (one row, too) -/
def lay (ds : List Pr) (i : Nat) (qs : List Pr) : List Pr := ds.take i ++ (qs ++ ds.drop (i + qs.length))
theorem lay_length (ds : List Pr) (i : Nat) (qs : List Pr) (h : i + qs.length ≤ ds.length) : (lay ds i qs).length = ds.length := by simp [lay]; omega
theorem flat_lay (ds : List Pr) (i : Nat) (qs : List Pr) : flat (lay ds i qs) = (flat ds).take (i * 5) ++ flat qs ++ (flat ds).drop (i * 5 + (flat qs).length) := by
  rw [lay, flat_append, flat_append, flat_take, flat_drop, flat_length, List.append_assoc, Nat.add_mul]
theorem run_sizeOf34 (w : World) : (sizeOf 34).run Try.prog w = .ok 5 w := by
  obtain ⟨i, hi, _, hs, _⟩ := info34
  simp [sizeOf, typeInfo, hi, hs]
theorem run_copy5 (w : World) (ty : TypeId) (g i dLen dCap : Nat) (ds : List Pr) (ad : Addr) (sLen sCap : Nat) (qs : List Pr) (hr : Row w g ds) (hq : qs.length = Nat.min sLen dLen)
    (hfit : i + qs.length ≤ ds.length) (hsrc : ∀ j u, (flat qs)[j]? = some u → w.cell? (ad.add j) = some u) :
    (Builtin.copy_ #[25, 25] ty #[.slice (some ⟨g, i * 5, none⟩) dLen dCap, .slice (some ad) sLen sCap]).run Try.prog w = .ok (goInt qs.length) (w.setRow g (flat (lay ds i qs)).toArray) := by
  have hf := run_firstCells_some (P := Try.prog) w 5 (Nat.min sLen dLen) ad sLen sCap (flat qs) (by rw [flat_length, hq]) hsrc
  have hst := run_storeCells_at Try.prog g (i * 5) 34 (flat qs) 0 (flat ds).toArray w hr (by rw [flat_length, List.size_toArray, flat_length]; omega) (flat_one qs)
  simp only [Nat.add_zero] at hst
  rw [flat_lay]
  simp only [Builtin.copy_, Sem.run_bind, run_underlying Try.underlying25, Result.andThen_ok, Builtin.lenOf, Sem.run_pure, run_sizeOf34, hf, hst, hq, List.getElem?_toArray, List.getElem?_cons_zero, List.getElem?_cons_succ]
theorem run_copy_zero (w : World) (ty : TypeId) (a1 : Option Addr) (dLen dCap : Nat) (ad : Option Addr) (sLen sCap : Nat) (h0 : Nat.min sLen dLen = 0) :
    (Builtin.copy_ #[25, 25] ty #[.slice a1 dLen dCap, .slice ad sLen sCap]).run Try.prog w = .ok (goInt 0) w := by
  have hf : (Builtin.firstCells 5 0 (.slice ad sLen sCap)).run Try.prog w = .ok #[] w := by
    cases ad with
    | none => exact run_firstCells_none w 5 0 sLen sCap
    | some x => exact run_firstCells_some (P := Try.prog) w 5 0 x sLen sCap [] (by simp) (by simp)
  simp only [Builtin.copy_, Sem.run_bind, run_underlying Try.underlying25, Result.andThen_ok, Builtin.lenOf, Sem.run_pure, run_sizeOf34, h0, hf, List.getElem?_toArray, List.getElem?_cons_zero, List.getElem?_cons_succ]
  cases a1 <;> simp [storeCells]
/-- a whole list of contacts (nil too) copied to the head of a row -/
theorem wpList_copyFull {ops : Array Oper} {rest : List Oper} {o : Oper} {a : Act} {w : World} {Q : Exit → Act → World → Prop} (hgd : o.guard = none) (d s : Operand)
    (ho : o.op = .call { callee := .builtin .copy, args := #[d, s], argTypes := #[25, 25] }) (g' C n N : Nat) (es : List Pr) (av : Option Addr) (ds : List Pr)
    (hd : a.eval d = .slice (some ⟨g', 0, none⟩) n C) (hs : a.eval s = .slice av n N) (hr : Row w g' es) (hsrc : (av = none ∧ ds = []) ∨ ∃ g, av = some ⟨g, 0, none⟩ ∧ Row w g ds)
    (hn : ds.length = n) (hle : n ≤ es.length)
    (h : ∀ w1, Row w1 g' (ds ++ es.drop n) → Fr (some g') w.heap.size w w1 → w1.heap.size = w.heap.size → wpList Try.prog ops Q rest (a.put o.dst (goInt n)) w1) : wpList Try.prog ops Q (o :: rest) a w := by
  refine wpList_plain hgd fun K hK => ?_
  subst hn
  have hcase : ∃ w1, (Builtin.copy_ #[25, 25] o.type #[.slice (some ⟨g', 0, none⟩) ds.length C, .slice av ds.length N]).run Try.prog w = .ok (goInt ds.length) w1 ∧
      Row w1 g' (ds ++ es.drop ds.length) ∧ Fr (some g') w.heap.size w w1 ∧ w1.heap.size = w.heap.size := by
    rcases hsrc with ⟨rfl, rfl⟩ | ⟨g, rfl, hg⟩
    · exact ⟨w, run_copy_zero w o.type _ _ C none _ N (by simp), by simpa using hr, Fr.refl _ _ _, rfl⟩
    · have hrun := run_copy5 w o.type g' 0 ds.length C es ⟨g, 0, none⟩ ds.length N ds hr (by simp) (by omega) (by have := hg.cells 0 ds.length; simpa using this)
      simp only [Nat.zero_mul] at hrun
      refine ⟨_, hrun, ?_, Fr.setRow _ _ _ _, size_setRow _ _ _⟩
      have := hr.setRow (lay es 0 ds)
      simpa [lay] using this
  obtain ⟨w1, hrun, q1, q2, q3⟩ := hcase
  unfold Oper.wp
  simp [execOp, ho, resolve, invoke, builtin, hd, hs, hrun, Result.andThen]
  exact hK _ _ (h w1 q1 q2 q3)
end Go.Proofs.Qxb6619336a
