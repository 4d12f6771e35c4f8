import Derived.Test.Qxb6619336aLaw4
import Derived.Test.Qxb6619336aBytes18
namespace Go.Proofs.Qxb6619336a
open Go.RowKit

/-! ### rows of peers (type 37): made, appended to where there is room, read -/
theorem info37' : (Try.prog.info? 37).map (fun i => (i.zero, i.size, i.bytes)) = some (some zeroV, 5, 56) := by kernel_rfl
theorem info37 : ∃ i, Try.prog.info? 37 = some i ∧ i.zero = some zeroV ∧ i.size = 5 ∧ i.bytes = 56 := by
  cases h : Try.prog.info? 37 with
  | none => have := info37'; rw [h] at this; cases this
  | some i =>
    have := info37'
    rw [h] at this
    simp only [Option.map_some, Option.some.injEq, Prod.mk.injEq] at this
    exact ⟨i, rfl, this⟩
def RowP (w : World) (g : Nat) (ds : List Pr) : Prop := w.heap[g]? = some (.cells (flat ds).toArray 37 (0, 0))
theorem RowP.lt {w : World} {g : Nat} {ds : List Pr} (h : RowP w g ds) : g < w.heap.size := (Array.getElem?_eq_some_iff.1 h).1
theorem RowP.range {w : World} {g : Nat} {ds : List Pr} (h : RowP w g ds) (i : Nat) (hi : i < ds.length) : w.rangeAt g (i * 5) ds[i].cells := fun j v hv => by
  have hj : j < 5 := by have := (List.getElem?_eq_some_iff.1 hv).1; rwa [cells_length] at this
  rw [cell_of_row w g (i * 5 + j) _ 37 (0, 0) h, List.getElem?_toArray, flat_get ds i j hi hj, hv]
theorem RowP.of {w w' : World} {g : Nat} {ds : List Pr} (h : RowP w g ds) (e : w'.heap[g]? = w.heap[g]?) : RowP w' g ds := e.trans h
theorem RowP.alloc {w : World} {g : Nat} {ds : List Pr} (h : RowP w g ds) (o : Obj) : RowP (w.alloc o) g ds := h.of (Below.heap_alloc w o g h.lt)
theorem RowP.made (w : World) (ds : List Pr) : RowP (w.alloc (.cells (flat ds).toArray 37)) w.heap.size ds := heap_alloc_new w _
theorem RowP.setRow {w : World} {g : Nat} {ds : List Pr} (h : RowP w g ds) (es : List Pr) : RowP (w.setRow g (flat es).toArray) g es := setRow_heap w g _ _ 37 (0, 0) h
theorem RowP.ps {w : World} {g : Nat} {ds : List Pr} (h : RowP w g ds) : Ps w (some ⟨g, 0, none⟩) ds :=
  .inr ⟨g, 0, rfl, h.lt, fun i p hp => by
    obtain ⟨hlt, e⟩ := List.getElem?_eq_some_iff.1 hp
    have := h.range i hlt
    rw [e] at this
    simpa using this⟩
theorem Row.ps {w : World} {g : Nat} {ds : List Pr} (h : Row w g ds) : Ps w (some ⟨g, 0, none⟩) ds :=
  .inr ⟨g, 0, rfl, h.lt, fun i p hp => by
    obtain ⟨hlt, e⟩ := List.getElem?_eq_some_iff.1 hp
    have := h.range i hlt
    rw [e] at this
    simpa using this⟩
theorem run_mkP (x y Z : Nat) (hZ : Z = x + y) (h : Z ≤ 1000000) (w : World) : (Instr.makeSlice 22 (.int .i64 0) (.int .i64 ((x : Int) + (y : Int)))).run Try.prog w =
    .ok (.slice (some ⟨w.heap.size, 0, none⟩) 0 Z) (w.alloc (.cells (flat (List.replicate Z Pr.zero)).toArray 37)) := by
  obtain ⟨i, hi, hz, hs, hb⟩ := info37
  rw [run_make (P := Try.prog) w 22 37 i zeroV Try.underlying22 hi hz .i64 .i64 0 ((x : Int) + (y : Int)) (by omega) (by omega) (by rw [hb]; omega) (by omega), hs]
  have e1 : ((x : Int) + (y : Int)).toNat = Z := by omega
  rw [e1, zeros_flat]; rfl
theorem run_mkC (x y Z : Nat) (hZ : Z = x + y) (h : Z ≤ 1000000) (w : World) : (Instr.makeSlice 25 (.int .i64 0) (.int .i64 ((x : Int) + (y : Int)))).run Try.prog w =
    .ok (.slice (some ⟨w.heap.size, 0, none⟩) 0 Z) (w.alloc (.cells (flat (List.replicate Z Pr.zero)).toArray 34)) := by
  obtain ⟨i, hi, hz, hs, hb⟩ := info34
  rw [run_make (P := Try.prog) w 25 34 i zeroV Try.underlying25 hi hz .i64 .i64 0 ((x : Int) + (y : Int)) (by omega) (by omega) (by rw [hb]; omega) (by omega), hs]
  have e1 : ((x : Int) + (y : Int)).toNat = Z := by omega
  rw [e1, zeros_flat]; rfl
theorem run_appendP (w : World) (ty : TypeId) (g n : Nat) (ds : List Pr) (p : Pr) (ad : Addr) (c : Nat) (hr : RowP w g ds) (hn : n < ds.length)
    (hnews : ∀ j u, p.cells[j]? = some u → w.cell? (ad.add j) = some u) :
    (Builtin.append_ #[22, 22] ty #[.slice (some ⟨g, 0, none⟩) n ds.length, .slice (some ad) 1 c]).run Try.prog w =
      .ok (.slice (some ⟨g, 0, none⟩) (n + 1) ds.length) (w.setRow g (flat (ds.set n p)).toArray) := by
  obtain ⟨i, hi, hz, hs, hb⟩ := info37
  have hl : p.cells.length = 1 * i.size := by rw [hs, cells_length]
  rw [run_append_room (P := Try.prog) w 22 ty 37 i Try.underlying22 hi g n ds.length (flat ds).toArray hr ad 1 c p.cells hl hnews
    (fun u hu => flat_one [p] u (by simpa [flat] using hu)) (by omega) (by rw [hs, cells_length, List.size_toArray, flat_length]; omega)]
  rw [hs, cells_length, flat_set ds n p hn, List.append_assoc]
/-- the peer k of Z put behind the first k -/
theorem wpList_appendP {ops : Array Oper} {rest : List Oper} {o : Oper} {a : Act} {w : World} {Q : Exit → Act → World → Prop} (hgd : o.guard = none) (s x : Operand)
    (ho : o.op = .call { callee := .builtin .append, args := #[s, x], argTypes := #[22, 22] }) (g k : Nat) (Z : List Pr) (p : Pr) (ad : Addr) (c : Nat)
    (hs : a.eval s = .slice (some ⟨g, 0, none⟩) k Z.length) (hx : a.eval x = .slice (some ad) 1 c) (hr : RowP w g (laidTo Z 0 k)) (hk : k < Z.length) (hp : Z[k] = p)
    (hnews : ∀ j u, p.cells[j]? = some u → w.cell? (ad.add j) = some u)
    (h : ∀ w1, RowP w1 g (laidTo Z 0 (k + 1)) → Fr (some g) w.heap.size w w1 → w1.heap.size = w.heap.size → wpList Try.prog ops Q rest (a.put o.dst (.slice (some ⟨g, 0, none⟩) (k + 1) Z.length)) w1) :
    wpList Try.prog ops Q (o :: rest) a w := by
  have hl : (laidTo Z 0 k).length = Z.length := laidTo_length Z 0 k (by omega)
  have hrun := run_appendP w o.type g k (laidTo Z 0 k) p ad c hr (by omega) hnews
  rw [hl] at hrun
  have hrow := hr.setRow ((laidTo Z 0 k).set k p)
  rw [← hp, laidTo_succ Z 0 k hk] at hrow
  rw [← hp, laidTo_succ Z 0 k hk] at hrun
  exact Lib.wpList_append_run w hgd s x 22 22 ho _ _ hs hx _ _ hrun (h _ hrow (Fr.setRow _ _ _ _) (size_setRow _ _ _))
/-- contact k of Z put behind the first k -/
theorem wpList_appendC {ops : Array Oper} {rest : List Oper} {o : Oper} {a : Act} {w : World} {Q : Exit → Act → World → Prop} (hgd : o.guard = none) (s x : Operand)
    (ho : o.op = .call { callee := .builtin .append, args := #[s, x], argTypes := #[25, 25] }) (g k : Nat) (Z : List Pr) (p : Pr) (ad : Addr) (c : Nat)
    (hs : a.eval s = .slice (some ⟨g, 0, none⟩) k Z.length) (hx : a.eval x = .slice (some ad) 1 c) (hr : Row w g (laidTo Z 0 k)) (hk : k < Z.length) (hp : Z[k] = p)
    (hnews : ∀ j u, p.cells[j]? = some u → w.cell? (ad.add j) = some u)
    (h : ∀ w1, Row w1 g (laidTo Z 0 (k + 1)) → Fr (some g) w.heap.size w w1 → w1.heap.size = w.heap.size → wpList Try.prog ops Q rest (a.put o.dst (.slice (some ⟨g, 0, none⟩) (k + 1) Z.length)) w1) :
    wpList Try.prog ops Q (o :: rest) a w := by
  have hl : (laidTo Z 0 k).length = Z.length := laidTo_length Z 0 k (by omega)
  have hrun := run_append5 w o.type g k (laidTo Z 0 k) p ad c hr (by omega) hnews
  rw [hl] at hrun
  have hrow := hr.setRow ((laidTo Z 0 k).set k p)
  rw [← hp, laidTo_succ Z 0 k hk] at hrow
  rw [← hp, laidTo_succ Z 0 k hk] at hrun
  exact Lib.wpList_append_run w hgd s x 25 25 ho _ _ hs hx _ _ hrun (h _ hrow (Fr.setRow _ _ _ _) (size_setRow _ _ _))
theorem laidTo_full (Z : List Pr) : laidTo Z 0 Z.length = Z := by rw [laidTo_all]; simp
theorem newsP (w : World) (p : Pr) (t : TypeId) : ∀ j u, p.cells[j]? = some u → (w.alloc (.cells #[.int .u64 p.a, .int .u64 p.b, .int .u64 p.c, .string p.nm, .string p.ad] t)).cell? ((⟨w.heap.size, 0, none⟩ : Addr).add j) = some u := by
  intro j u hu
  rw [Addr.add_mid, cell_of_row _ _ (0 + j) #[.int .u64 p.a, .int .u64 p.b, .int .u64 p.c, .string p.nm, .string p.ad] t (0, 0) (heap_alloc_new w _), Nat.zero_add]
  rw [← hu, ← List.getElem?_toArray]; rfl

/-! ### zzContacts and ZZAppendClosest in a world that has grown from wq, where the target lies at T -/
structure Tg (w : World) (T : Nat) (ta tb tc : Int) : Prop where
  c0 : w.cell? ⟨T, 0, none⟩ = some (.int .u64 ta)
  c1 : w.cell? ⟨T, 1, none⟩ = some (.int .u64 tb)
  c2 : w.cell? ⟨T, 2, none⟩ = some (.int .u64 tc)
theorem Tg.lt {w : World} {T : Nat} {ta tb tc : Int} (h : Tg w T ta tb tc) : T < w.heap.size := World.block_lt_of_cell? w _ h.c0
theorem Tg.below {w w' : World} {T : Nat} {ta tb tc : Int} (h : Tg w T ta tb tc) (hb : Below w.heap.size w w') : Tg w' T ta tb tc :=
  ⟨(hb.cell (p := ⟨T, 0, none⟩) h.lt).trans h.c0, (hb.cell (p := ⟨T, 1, none⟩) h.lt).trans h.c1, (hb.cell (p := ⟨T, 2, none⟩) h.lt).trans h.c2⟩
/-- what zzContacts has left: new contacts at a', in the world w' -/
structure Cin (wq W : World) (T : Nat) (ta tb tc : Int) (ps : List Pr) (a' : Option Addr) (ds' : List Pr) (w' : World) : Prop where
  at_ : At w' a' ps.length ds'
  tk : ds'.take ps.length = ps
  new : ∀ b o, a' = some ⟨b, o, none⟩ → W.heap.size ≤ b ∧ b < w'.heap.size
  ps : Ps w' a' ps
  bl : Below W.heap.size W w'
  blq : Below wq.heap.size wq w'
  tg : Tg w' T ta tb tc
theorem contacts_in (wq W : World) (a : Option Addr) (c : Nat) (ps : List Pr) (T : Nat) (ta tb tc : Int) (hb : Below wq.heap.size wq W) (hp : Ps wq a ps) (hl : ps.length ≤ 100000) (ht : Tg wq T ta tb tc) :
    Calls Try.prog 8 #[.slice a ps.length c, .int .i64 0] W fun e w' => ∃ (a' : Option Addr) (ds' : List Pr), e = .returned (.slice a' ps.length ds'.length) ∧ Cin wq W T ta tb tc ps a' ds' w' := by
  refine (contacts_any a c ps 0 W (hp.below hb) hl (by omega)).mono ?_
  rintro e w' ⟨v, rfl, hm, hb'⟩
  obtain ⟨a', ds', rfl, h1, h2, h3, h4⟩ := made_At hm
  have hbb := hb.trans (hb'.mono hb.size)
  exact ⟨a', ds', rfl, h1, h2, fun b o h => ⟨by have := (h3 b o h).1; omega, (h3 b o h).2⟩, h4, hb', hbb, ht.below hbb⟩
/-- what ZZAppendClosest has answered: closest, then L -/
def Ans (wq : World) (cl L : List Pr) (v : Value) (w' : World) : Prop :=
  ∃ (a : Option Addr) (ds : List Pr) (N : Nat), N = cl.length + L.length ∧ v = .slice a N ds.length ∧ At w' a N ds ∧ ds.take N = cl ++ L ∧ Below wq.heap.size wq w'
theorem zap_at (wq W : World) (a0 : Option Addr) (cl ds0 : List Pr) (a2 : Option Addr) (c2 : Nat) (qs : List Pr) (ta tb tc n : Int) (L : List Pr) (hL : L = Top.top (dist ta tb tc) (n - cl.length).toNat qs) (hb : Below wq.heap.size wq W)
    (hat : At W a0 cl.length ds0) (htk : ds0.take cl.length = cl) (hbase : ∀ g, a0 = some ⟨g, 0, none⟩ → wq.heap.size ≤ g) (hp : Ps W a2 qs) (hap : ∀ g b off, a0 = some ⟨g, 0, none⟩ → a2 = some ⟨b, off, none⟩ → b ≠ g)
    (ht : Tok ta tb tc) (hok : ∀ q ∈ qs, q.ok) (hl1 : cl.length ≤ 50000) (hl2 : qs.length ≤ 50000) (hn1 : -9223372036854775808 ≤ n) (hn2 : n ≤ 9223372036854775807) :
    Calls Try.prog 15 #[.slice a0 cl.length ds0.length, .slice a2 qs.length c2, .agg #[.int .u64 ta, .int .u64 tb, .int .u64 tc], .int .i64 n] W fun e w' => ∃ v, e = .returned v ∧ Ans wq cl L v w' := by
  refine (zappend_any wq.heap.size a0 cl ds0 a2 c2 qs ta tb tc n W hb.size hat htk hbase hp (fun g b off h1 h2 _ => hap g b off h1 h2) ht hok hl1 hl2 hn1 hn2).mono ?_
  rintro e w' ⟨a, ds, L', N, hL', hN, rfl, h1, h2, h3, h4⟩
  rw [← hL] at hL'
  subst hL'
  exact ⟨_, rfl, a, ds, N, hN, rfl, h1, h2, hb.trans h4⟩
/-- closest first, then the nodes -/
theorem zap_ab {wq W wa wb : World} {T : Nat} {ta tb tc : Int} {cl qs : List Pr} {a0 a9 : Option Addr} {ds0 ds9 : List Pr} (A : Cin wq W T ta tb tc cl a0 ds0 wa) (Bn : Cin wq wa T ta tb tc qs a9 ds9 wb) (hW : wq.heap.size ≤ W.heap.size)
    (n : Int) (L : List Pr) (hL : L = Top.top (dist ta tb tc) (n - cl.length).toNat qs) (ht : Tok ta tb tc) (hok : ∀ q ∈ qs, q.ok) (hl1 : cl.length ≤ 50000) (hl2 : qs.length ≤ 50000) (hn1 : -9223372036854775808 ≤ n) (hn2 : n ≤ 9223372036854775807) :
    Calls Try.prog 15 #[.slice a0 cl.length ds0.length, .slice a9 qs.length ds9.length, .agg #[.int .u64 ta, .int .u64 tb, .int .u64 tc], .int .i64 n] wb fun e w' => ∃ v, e = .returned v ∧ Ans wq cl L v w' :=
  zap_at wq wb a0 cl ds0 a9 ds9.length qs ta tb tc n L hL Bn.blq (A.at_.of Bn.bl) A.tk (fun g hg => by have := (A.new g 0 hg).1; omega) Bn.ps
    (fun g b off hg hb => by have := A.new g 0 hg; have := Bn.new b off hb; omega) ht hok hl1 hl2 hn1 hn2
/-- the nodes first, then closest -/
theorem zap_ba {wq W wa wb : World} {T : Nat} {ta tb tc : Int} {cl qs : List Pr} {a0 a9 : Option Addr} {ds0 ds9 : List Pr} (Bn : Cin wq W T ta tb tc qs a9 ds9 wb) (A : Cin wq wb T ta tb tc cl a0 ds0 wa) (hW : wq.heap.size ≤ W.heap.size)
    (n : Int) (L : List Pr) (hL : L = Top.top (dist ta tb tc) (n - cl.length).toNat qs) (ht : Tok ta tb tc) (hok : ∀ q ∈ qs, q.ok) (hl1 : cl.length ≤ 50000) (hl2 : qs.length ≤ 50000) (hn1 : -9223372036854775808 ≤ n) (hn2 : n ≤ 9223372036854775807) :
    Calls Try.prog 15 #[.slice a0 cl.length ds0.length, .slice a9 qs.length ds9.length, .agg #[.int .u64 ta, .int .u64 tb, .int .u64 tc], .int .i64 n] wa fun e w' => ∃ v, e = .returned v ∧ Ans wq cl L v w' :=
  zap_at wq wa a0 cl ds0 a9 ds9.length qs ta tb tc n L hL A.blq A.at_ A.tk (fun g hg => by have := (A.new g 0 hg).1; have := Bn.bl.size; omega) (Bn.ps.below A.bl)
    (fun g b off hg hb => by have := A.new g 0 hg; have := Bn.new b off hb; omega) ht hok hl1 hl2 hn1 hn2
/-- no closest at all -/
theorem zap_nil {wq W wb : World} {T : Nat} {ta tb tc : Int} {qs : List Pr} {a9 : Option Addr} {ds9 : List Pr} (Bn : Cin wq W T ta tb tc qs a9 ds9 wb)
    (n : Int) (L : List Pr) (hL : L = Top.top (dist ta tb tc) n.toNat qs) (ht : Tok ta tb tc) (hok : ∀ q ∈ qs, q.ok) (hl2 : qs.length ≤ 50000) (hn1 : -9223372036854775808 ≤ n) (hn2 : n ≤ 9223372036854775807) :
    Calls Try.prog 15 #[.slice none 0 0, .slice a9 qs.length ds9.length, .agg #[.int .u64 ta, .int .u64 tb, .int .u64 tc], .int .i64 n] wb fun e w' => ∃ v, e = .returned v ∧ Ans wq [] L v w' :=
  zap_at wq wb none [] [] a9 ds9.length qs ta tb tc n L (by simpa using hL) Bn.blq (.inl ⟨rfl, rfl, rfl⟩) rfl (fun g hg => by cases hg) Bn.ps
    (fun g b off hg hb => by cases hg) ht hok (by simp) hl2 hn1 hn2
/-- closest, then the contacts of a row that was there before -/
theorem zap_row {wq W wa : World} {T : Nat} {ta tb tc : Int} {cl qs : List Pr} {a0 : Option Addr} {ds0 : List Pr} {R c9 : Nat} (A : Cin wq W T ta tb tc cl a0 ds0 wa) (hW : wq.heap.size ≤ W.heap.size) (hR : Row wq R qs)
    (n : Int) (L : List Pr) (hL : L = Top.top (dist ta tb tc) (n - cl.length).toNat qs) (ht : Tok ta tb tc) (hok : ∀ q ∈ qs, q.ok) (hl1 : cl.length ≤ 50000) (hl2 : qs.length ≤ 50000) (hn1 : -9223372036854775808 ≤ n) (hn2 : n ≤ 9223372036854775807) :
    Calls Try.prog 15 #[.slice a0 cl.length ds0.length, .slice (some ⟨R, 0, none⟩) qs.length c9, .agg #[.int .u64 ta, .int .u64 tb, .int .u64 tc], .int .i64 n] wa fun e w' => ∃ v, e = .returned v ∧ Ans wq cl L v w' :=
  zap_at wq wa a0 cl ds0 (some ⟨R, 0, none⟩) c9 qs ta tb tc n L hL A.blq A.at_ A.tk (fun g hg => by have := (A.new g 0 hg).1; omega) (hR.ps.below A.blq)
    (fun g b off hg hb => by have := A.new g 0 hg; have := hR.lt; injection hb with hb; injection hb with hb; omega) ht hok hl1 hl2 hn1 hn2
end Go.Proofs.Qxb6619336a
