import Derived.Test.Qxb6619336aBase
import Derived.Deep.AppendLies
namespace Go.Proofs.Qxb6619336a
open Go.RowKit

/-! ### rows of contacts: one block, five cells a contact, the spare room counted in -/
def Pr.zero : Pr := ⟨0, 0, 0, ⟨#[]⟩, ⟨#[]⟩⟩
def flat (ds : List Pr) : List Value := ds.flatMap Pr.cells
theorem flat_nil : flat [] = [] := rfl
theorem flat_cons (d : Pr) (ds : List Pr) : flat (d :: ds) = d.cells ++ flat ds := rfl
theorem flat_append (xs ys : List Pr) : flat (xs ++ ys) = flat xs ++ flat ys := by simp [flat]
theorem cells_length (d : Pr) : d.cells.length = 5 := rfl
theorem flat_length (ds : List Pr) : (flat ds).length = ds.length * 5 := by
  induction ds with
  | nil => rfl
  | cons d ds ih => rw [flat_cons, List.length_append, ih, cells_length, List.length_cons]; omega
theorem flat_take (ds : List Pr) (n : Nat) : flat (ds.take n) = (flat ds).take (n * 5) := by
  induction ds generalizing n with
  | nil => simp [flat]
  | cons d ds ih =>
    cases n with
    | zero => simp [flat]
    | succ n =>
      rw [List.take_succ_cons, flat_cons, flat_cons, ih, show (n + 1) * 5 = d.cells.length + n * 5 by rw [cells_length]; omega, List.take_length_add_append]
theorem flat_drop (ds : List Pr) (n : Nat) : flat (ds.drop n) = (flat ds).drop (n * 5) := by
  induction ds generalizing n with
  | nil => simp [flat]
  | cons d ds ih =>
    cases n with
    | zero => simp
    | succ n =>
      rw [List.drop_succ_cons, flat_cons, ih, show (n + 1) * 5 = d.cells.length + n * 5 by rw [cells_length]; omega, List.drop_length_add_append]
theorem flat_get (ds : List Pr) (i j : Nat) (hi : i < ds.length) (hj : j < 5) : (flat ds)[i * 5 + j]? = ds[i].cells[j]? := by
  induction ds generalizing i with
  | nil => simp at hi
  | cons d ds ih =>
    rw [flat_cons]
    cases i with
    | zero => rw [List.getElem?_append_left (by rw [cells_length]; omega)]; simp
    | succ i =>
      rw [List.getElem?_append_right (by rw [cells_length]; omega), cells_length, show (i + 1) * 5 + j - 5 = i * 5 + j by omega, ih i (by simpa using hi)]
      simp
theorem flat_one (ds : List Pr) : ∀ u ∈ flat ds, u.oneCell' = true := by
  intro u hu
  simp only [flat, List.mem_flatMap] at hu
  obtain ⟨d, _, hd⟩ := hu
  simp only [Pr.cells, List.mem_cons, List.not_mem_nil, or_false] at hd
  rcases hd with rfl | rfl | rfl | rfl | rfl <;> rfl
theorem flat_set (ds : List Pr) (i : Nat) (p : Pr) (hi : i < ds.length) : flat (ds.set i p) = (flat ds).take (i * 5) ++ (p.cells ++ (flat ds).drop (i * 5 + 5)) := by
  rw [← flat_take, show i * 5 + 5 = (i + 1) * 5 by omega, ← flat_drop, ← flat_cons, ← flat_append, List.set_eq_take_append_cons_drop, if_pos hi]

def Row (w : World) (g : Nat) (ds : List Pr) : Prop := w.heap[g]? = some (.cells (flat ds).toArray 34 (0, 0))
theorem Row.lt {w : World} {g : Nat} {ds : List Pr} (h : Row w g ds) : g < w.heap.size := (Array.getElem?_eq_some_iff.1 h).1
theorem Row.range {w : World} {g : Nat} {ds : List Pr} (h : Row w g ds) (i : Nat) (hi : i < ds.length) : w.rangeAt g (i * 5) ds[i].cells := fun j v hv => by
  have hj : j < 5 := by have := (List.getElem?_eq_some_iff.1 hv).1; rwa [cells_length] at this
  rw [cell_of_row w g (i * 5 + j) _ 34 (0, 0) h, List.getElem?_toArray, flat_get ds i j hi hj, hv]
theorem Row.cells {w : World} {g : Nat} {ds : List Pr} (h : Row w g ds) (n m : Nat) : ∀ j u, (flat ((ds.drop n).take m))[j]? = some u → w.cell? ((⟨g, n * 5, none⟩ : Addr).add j) = some u := fun j u hu => by
  rw [Addr.add_mid, cell_of_row w g (n * 5 + j) _ 34 (0, 0) h, List.getElem?_toArray]
  rw [flat_take, flat_drop, List.getElem?_take] at hu
  split at hu
  · rwa [List.getElem?_drop] at hu
  · cases hu
theorem Row.there {w : World} {g : Nat} {ds : List Pr} (h : Row w g ds) (i : Nat) (hi : i < ds.length) : w.there g (i * 5) 5 := fun j hj => by
  refine ⟨(h.range i hi).isSome j (by rw [cells_length]; exact hj), ?_⟩
  have h' : w.heap[g]? = some (.cells (flat ds).toArray 34 (0, 0)) := h
  simp [World.frozen?, h']
theorem Row.of {w w' : World} {g : Nat} {ds : List Pr} (h : Row w g ds) (e : w'.heap[g]? = w.heap[g]?) : Row w' g ds := e.trans h
theorem Row.drew {w : World} {g : Nat} {ds : List Pr} (h : Row w g ds) : Row w.drew g ds := h
theorem Row.alloc {w : World} {g : Nat} {ds : List Pr} (h : Row w g ds) (o : Obj) : Row (w.alloc o) g ds := h.of (Below.heap_alloc w o g h.lt)
theorem Row.made (w : World) (ds : List Pr) : Row (w.alloc (.cells (flat ds).toArray 34)) w.heap.size ds := heap_alloc_new w _

theorem Row.made' (w : World) (k : Nat) (hk : w.heap.size = k) (ds : List Pr) : Row (w.alloc (.cells (flat ds).toArray 34)) k ds := by subst hk; exact Row.made w ds

/-! ### the frame: below B nothing has turned but, maybe, block g -/
structure Fr (g : Option Nat) (B : Nat) (w w' : World) : Prop where
  os : w'.os = w.os
  tape : w'.tape = w.tape
  output : w'.output = w.output
  size : w.heap.size ≤ w'.heap.size
  block : ∀ k, k < B → some k ≠ g → w'.heap[k]? = w.heap[k]?
theorem Fr.refl (g : Option Nat) (B : Nat) (w : World) : Fr g B w w := ⟨rfl, rfl, rfl, Nat.le_refl _, fun _ _ _ => rfl⟩
theorem Fr.trans {g : Option Nat} {B : Nat} {a b c : World} (h : Fr g B a b) (k : Fr g B b c) : Fr g B a c :=
  ⟨k.os.trans h.os, k.tape.trans h.tape, k.output.trans h.output, Nat.le_trans h.size k.size, fun i hi hg => (k.block i hi hg).trans (h.block i hi hg)⟩
theorem Fr.mono {g : Option Nat} {B B' : Nat} {a b : World} (h : Fr g B a b) (hB : B' ≤ B) : Fr g B' a b := ⟨h.os, h.tape, h.output, h.size, fun k hk => h.block k (Nat.lt_of_lt_of_le hk hB)⟩
theorem Fr.of_below {g : Option Nat} {B : Nat} {a b : World} (h : Below B a b) : Fr g B a b := ⟨h.os, h.tape, h.output, h.size, fun k hk _ => h.block k hk⟩
theorem Fr.below {B : Nat} {a b : World} (h : Fr none B a b) : Below B a b := ⟨h.os, h.tape, h.output, h.size, fun k hk => h.block k hk (by simp)⟩
theorem Fr.below_of {g B B' : Nat} {a b : World} (h : Fr (some g) B a b) (hg : B' ≤ g) (hB : B' ≤ B) : Below B' a b :=
  ⟨h.os, h.tape, h.output, h.size, fun k hk => h.block k (by omega) (fun e => by injection e with e; omega)⟩
theorem Fr.widen {g : Option Nat} {B : Nat} {a b : World} (h : Fr none B a b) : Fr g B a b := ⟨h.os, h.tape, h.output, h.size, fun k hk _ => h.block k hk (by simp)⟩
theorem Fr.drew {g : Option Nat} {B : Nat} {a b : World} (h : Fr g B a b) : Fr g B a b.drew := ⟨h.os, h.tape, h.output, h.size, h.block⟩
theorem Fr.alloc {g : Option Nat} {B : Nat} {a b : World} (h : Fr g B a b) (hB : B ≤ b.heap.size) (o : Obj) : Fr g B a (b.alloc o) :=
  h.trans ⟨rfl, rfl, rfl, by simp, fun k hk _ => Below.heap_alloc b o k (by omega)⟩
theorem Fr.setCell {g : Option Nat} {B : Nat} {a b : World} (h : Fr g B a b) {p : Addr} (hp : B ≤ p.block ∨ some p.block = g) (u : Value) : Fr g B a (b.setCell p u) :=
  h.trans ⟨rfl, rfl, rfl, by simp [World.setCell], fun k hk hg => Below.heap_setCell b p u k (fun e => by subst e; rcases hp with hp | hp; exact absurd hk (by omega); exact hg hp)⟩
theorem Fr.setCells {g : Option Nat} {B : Nat} {a : World} {b : Nat} (hp : B ≤ b ∨ some b = g) : ∀ (vs : List Value) (o : Nat) (w : World), Fr g B a w → Fr g B a (w.setCells b o vs)
  | [], _, _, h => h
  | v :: r, o, w, h => by
    rw [World.setCells]
    exact Fr.setCells hp r (o + 1) _ (h.setCell (p := ⟨b, o, none⟩) hp v)
theorem Fr.row {g : Option Nat} {B k : Nat} {w w' : World} {ds : List Pr} (h : Fr g B w w') (hr : Row w k ds) (hk : k < B) (hg : some k ≠ g) : Row w' k ds := hr.of (h.block k hk hg)
theorem Fr.cell {g : Option Nat} {B : Nat} {w w' : World} (h : Fr g B w w') {p : Addr} (hp : p.block < B) (hg : some p.block ≠ g) : w'.cell? p = w.cell? p := World.cell?_of_block (w := w) (h.block p.block hp hg)
theorem Fr.frozen {g : Option Nat} {B : Nat} {w w' : World} (h : Fr g B w w') {p : Addr} (hp : p.block < B) (hg : some p.block ≠ g) : w'.frozen? p = w.frozen? p := World.frozen?_of_block (w := w) (h.block p.block hp hg)
/-! ### a store of one contact into a row -/
theorem setCell_heap (w : World) (g o : Nat) (v : Value) (cur : List Value) (t : TypeId) (fr : Nat × Nat) (h : w.heap[g]? = some (.cells cur.toArray t fr)) :
    (w.setCell ⟨g, o, none⟩ v).heap[g]? = some (.cells (cur.set o v).toArray t fr) := by
  have hlt : g < w.heap.size := (Array.getElem?_eq_some_iff.1 h).1
  have hv : w.heap[g] = .cells cur.toArray t fr := (Array.getElem?_eq_some_iff.1 h).2
  simp only [World.setCell, Array.getElem?_modify, if_true, h, Option.map_some]
  simp
theorem setCells_heap (g : Nat) (t : TypeId) (fr : Nat × Nat) : ∀ (vs : List Value) (o : Nat) (w : World) (cur : List Value), w.heap[g]? = some (.cells cur.toArray t fr) → o + vs.length ≤ cur.length →
    (w.setCells g o vs).heap[g]? = some (.cells (cur.take o ++ (vs ++ cur.drop (o + vs.length))).toArray t fr)
  | [], o, w, cur, h, _ => by rw [World.setCells, h]; simp
  | v :: r, o, w, cur, h, hl => by
    rw [World.setCells, setCells_heap g t fr r (o + 1) _ (cur.set o v) (setCell_heap w g o v cur t fr h) (by simp at hl ⊢; omega)]
    congr 3
    simp only [List.length_cons] at hl
    have ho : o < cur.length := by omega
    rw [List.set_eq_take_append_cons_drop, if_pos ho, List.take_append, List.drop_append]
    simp only [List.length_take, Nat.min_eq_left (Nat.le_of_lt ho)]
    rw [show o + 1 - o = 1 by omega, show o + 1 + r.length - o = r.length + 1 by omega]
    rw [List.take_of_length_le (by simp; omega), List.drop_of_length_le (l := cur.take o) (by simp; omega)]
    simp only [List.take_succ_cons, List.take_zero, List.drop_succ_cons, List.drop_drop, List.nil_append, List.append_assoc, List.cons_append, List.length_cons]
    rw [show o + 1 + r.length = o + (r.length + 1) by omega]
theorem Row.set {w : World} {g : Nat} {ds : List Pr} (h : Row w g ds) (i : Nat) (p : Pr) (hi : i < ds.length) : Row (w.setCells g (i * 5) p.cells) g (ds.set i p) := by
  unfold Row
  rw [setCells_heap g 34 (0, 0) p.cells (i * 5) w (flat ds) h (by rw [flat_length, cells_length]; omega), flat_set ds i p hi, cells_length]
/-- the five cells of contact i of a row, and that none is frozen, as the walk spells them -/
theorem Row.five {w : World} {g : Nat} {ds : List Pr} (h : Row w g ds) (i : Nat) (hi : i < ds.length) :
    (w.cell? ⟨g, i * 5, none⟩ = some (.int .u64 ds[i].a) ∧ w.cell? ⟨g, i * 5 + 1, none⟩ = some (.int .u64 ds[i].b) ∧ w.cell? ⟨g, i * 5 + 2, none⟩ = some (.int .u64 ds[i].c) ∧
      w.cell? ⟨g, i * 5 + 3, none⟩ = some (.string ds[i].nm) ∧ w.cell? ⟨g, i * 5 + 4, none⟩ = some (.string ds[i].ad)) ∧
    (w.frozen? ⟨g, i * 5, none⟩ = false ∧ w.frozen? ⟨g, i * 5 + 1, none⟩ = false ∧ w.frozen? ⟨g, i * 5 + 2, none⟩ = false ∧ w.frozen? ⟨g, i * 5 + 3, none⟩ = false ∧ w.frozen? ⟨g, i * 5 + 4, none⟩ = false) :=
  ⟨Qxb6619336a.five (h.range i hi), (h.there i hi 0 (by omega)).2, (h.there i hi 1 (by omega)).2, (h.there i hi 2 (by omega)).2, (h.there i hi 3 (by omega)).2, (h.there i hi 4 (by omega)).2⟩
end Go.Proofs.Qxb6619336a
